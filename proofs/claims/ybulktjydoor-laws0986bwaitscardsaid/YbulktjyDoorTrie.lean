import Derived.Test.YbulktjyDoorStream
namespace Go.Proofs.YbulktjyDoor
open Go.RowKit

/-! ### the trie -/
/-- a parameter that is a slice of numbers -/
def NumRow (w : World) (base : Nat) (k : IntKind) (M : Nat) (ao : Option Addr) (n : Nat) : Prop := ∀ i, i < n → ∃ g off x : Nat, ao = some ⟨g, off, none⟩ ∧ g < base ∧ w.cell? ⟨g, off + i, none⟩ = some (.int k (x : Nat)) ∧ x < M
theorem NumRow.kept {w w' : World} {base : Nat} {k : IntKind} {M n : Nat} {ao : Option Addr} (h : NumRow w base k M ao n) (hb : Below base w w') : NumRow w' base k M ao n := by
  intro i hi
  obtain ⟨g, off, x, e, hg, hc, hx⟩ := h i hi
  exact ⟨g, off, x, e, hg, by rw [World.cell?_of_block (hb.block _ hg)]; exact hc, hx⟩

def NodeOk (xs : List Value) (N B : Nat) : Prop := ∀ v, v < N → ∃ (f c : Nat) (x y : Int), xs[v * 4]? = some (.int .u32 (f : Nat)) ∧ xs[v * 4 + 1]? = some (.int .u32 (c : Nat)) ∧ xs[v * 4 + 2]? = some (.int .u32 x) ∧ xs[v * 4 + 3]? = some (.int .u32 y) ∧ f + c ≤ B ∧ c ≤ 3
def EdgeOk (ys : List Value) (E : Nat) : Prop := ∀ i, i < E → ∃ c : Nat, c ∈ tab ∧ ys[i]? = some (.int .i32 (c : Nat))
def trCells (a b : Value) : Array Value :=
  #[a, b, .slice none 0 0, .slice none 0 0, .int .i64 0, .int .u64 0, .int .u32 0, .pointer none, .slice none 0 0, .map none, .pointer none, .slice none 0 0, .pointer none, .pointer none, .pointer none, .pointer none, .pointer none,
    .pointer none, .pointer none, .pointer none, .pointer none, .pointer none, .pointer none, .pointer none, .pointer none, .pointer none, .pointer none, .pointer none, .pointer none, .pointer none, .slice none 0 0, .slice none 0 0,
    .bool false, .int .u64 0, .int .u64 0, .int .u64 0, .int .u64 0, .pointer none]
def TI (w : World) (tb base gn cn N ge ce E : Nat) (xs ys : List Value) : Prop :=
  w.heap[tb]? = some (.cells (trCells (.slice (some ⟨gn, 0, none⟩) N cn) (.slice (some ⟨ge, 0, none⟩) E ce)) 63 (0, 0)) ∧ w.ownsRow base 88 4 (.slice (some ⟨gn, 0, none⟩) N cn) N xs ∧ w.ownsRow base 21 1 (.slice (some ⟨ge, 0, none⟩) E ce) E ys ∧ base ≤ tb

def nodeCs : Array Value := madeCells #[.int .u32 0, .int .u32 0, .int .u32 0, .int .u32 0] 256
def edgeCs : Array Value := madeCells #[.int .i32 0] 63
theorem mk53 (w : World) : (Instr.makeSlice 53 (.int .i64 1) (.int .i64 64)).run Ybad.prog w = .ok (.slice (some ⟨w.heap.size, 0, none⟩) 1 64) (w.alloc (.cells nodeCs 88)) := by kernel_rfl
theorem mk38 (w : World) : (Instr.makeSlice 38 (.int .i64 0) (.int .i64 63)).run Ybad.prog w = .ok (.slice (some ⟨w.heap.size, 0, none⟩) 0 63) (w.alloc (.cells edgeCs 21)) := by kernel_rfl

theorem nodeOk_zero : NodeOk (nodeCs.toList.take 4) 1 0 := by
  intro v hv
  obtain rfl : v = 0 := by omega
  exact ⟨0, 0, 0, 0, by kernel_rfl, by kernel_rfl, by kernel_rfl, by kernel_rfl, by omega, by omega⟩
theorem own_nodes {w : World} {g base : Nat} (h : w.heap[g]? = some (.cells nodeCs 88 (0, 0))) (hb : base ≤ g) : w.ownsRow base 88 4 (.slice (some ⟨g, 0, none⟩) 1 64) 1 (nodeCs.toList.take 4) :=
  ⟨by kernel_rfl, .inr ⟨g, 64, nodeCs, rfl, hb, h, by omega, by unfold maxLen; omega, by kernel_rfl, rfl⟩⟩
theorem own_edges {w : World} {g base : Nat} (h : w.heap[g]? = some (.cells edgeCs 21 (0, 0))) (hb : base ≤ g) : w.ownsRow base 21 1 (.slice (some ⟨g, 0, none⟩) 0 63) 0 [] :=
  ⟨by kernel_rfl, .inr ⟨g, 63, edgeCs, rfl, hb, h, by omega, by unfold maxLen; omega, by kernel_rfl, rfl⟩⟩

theorem three_alloc (w : World) (a b c : Obj) : (((w.alloc a).alloc b).alloc c).drew.heap[w.heap.size]? = some a ∧ (((w.alloc a).alloc b).alloc c).drew.heap[w.heap.size + 1]? = some b ∧ (((w.alloc a).alloc b).alloc c).drew.heap[w.heap.size + 1 + 1]? = some c := by
  have s1 : (w.alloc a).heap.size = w.heap.size + 1 := by simp
  have s2 : ((w.alloc a).alloc b).heap.size = w.heap.size + 1 + 1 := by simp
  have e : (((w.alloc a).alloc b).alloc c).drew.heap = (((w.alloc a).alloc b).alloc c).heap := rfl
  rw [e]
  refine ⟨?_, ?_, ?_⟩
  · rw [Below.heap_alloc _ _ _ (by omega), Below.heap_alloc _ _ _ (by omega)]; exact heap_alloc_new w a
  · rw [Below.heap_alloc _ _ _ (by omega), ← s1]; exact heap_alloc_new _ b
  · rw [← s2]; exact heap_alloc_new _ c
theorem three_below (w : World) (a b c : Obj) {base : Nat} (hb : base ≤ w.heap.size) : Below base w (((w.alloc a).alloc b).alloc c).drew := by
  have h1 := (Below.refl base w).grown (World.grownBy_alloc w a none) hb (by simp)
  have h2 := h1.grown (World.grownBy_alloc (w.alloc a) b none) (by simp; omega) (by simp)
  have h3 := h2.grown (World.grownBy_alloc ((w.alloc a).alloc b) c none) (by simp; omega) (by simp)
  exact h3.grown (grownBy_drewN _ 1 none) (by simp; omega) (by simp)

theorem TI.drew {w : World} {tb base gn cn N ge ce E : Nat} {xs ys : List Value} (h : TI w tb base gn cn N ge ce E xs ys) : TI w.drew tb base gn cn N ge ce E xs ys :=
  ⟨h.1, own_none h.2.1 (grownBy_drewN w 1 none), own_none h.2.2.1 (grownBy_drewN w 1 none), h.2.2.2⟩
theorem TI.set {w : World} {tb base gn cn N ge ce E : Nat} {xs ys : List Value} (h : TI w tb base gn cn N ge ce E xs ys) (j : Nat) (u : Value) : TI (w.setCell ⟨gn, j, none⟩ u) tb base gn cn N ge ce E (xs.set j u) ys := by
  obtain ⟨h1, h2, h3, h4⟩ := h
  obtain ⟨_, cur, hh⟩ := own_block h2 (g := gn) rfl
  exact ⟨blk_other (grownBy_setCell w ⟨gn, j, none⟩ u) hh h1 (by decide), (h2.stored _ _).1, own_other h3 (grownBy_setCell w ⟨gn, j, none⟩ u) hh (by decide), h4⟩
theorem TI.below {w : World} {tb base gn cn N ge ce E : Nat} {xs ys : List Value} (h : TI w tb base gn cn N ge ce E xs ys) (j : Nat) (u : Value) (hb : base ≤ w.heap.size) : Below base w (w.setCell ⟨gn, j, none⟩ u) := by
  obtain ⟨hg, _, _⟩ := own_block h.2.1 (g := gn) rfl
  exact (Below.refl _ _).grown (grownBy_setCell w ⟨gn, j, none⟩ u) hb (fun k e => by simp at e; subst e; exact hg)

theorem edge_step {w w7 : World} {tb base gn cn N ge ce E g7 c7 : Nat} {xs ys : List Value} {c : Value} {X : Obj} (h : TI w tb base gn cn N ge ce E xs ys) (hb : base ≤ w.heap.size) (hown : w7.ownsRow base 21 1 (.slice (some ⟨g7, 0, none⟩) (E + 1) c7) (E + 1) (ys ++ [c])) (hg : (w.alloc X).grownBy w7 (some ge)) :
    w7.heap[tb]? = some (.cells (trCells (.slice (some ⟨gn, 0, none⟩) N cn) (.slice (some ⟨ge, 0, none⟩) E ce)) 63 (0, 0)) ∧
    TI (w7.setCell ⟨tb, 1, none⟩ (.slice (some ⟨g7, 0, none⟩) (E + 1) c7)) tb base gn cn N g7 c7 (E + 1) xs (ys ++ [c]) ∧ Below base w (w7.setCell ⟨tb, 1, none⟩ (.slice (some ⟨g7, 0, none⟩) (E + 1) c7)) := by
  obtain ⟨h1, h2, h3, h4⟩ := h
  have ga := World.grownBy_alloc w X none
  have k1 := blk_none ga h1
  have k2 := own_none h2 ga
  have k3 := own_none h3 ga
  obtain ⟨hge, cur, hh⟩ := own_block k3 (g := ge) rfl
  have m1 := blk_other hg hh k1 (by decide)
  have m2 := own_other k2 hg hh (by decide)
  have gs := grownBy_setCell w7 ⟨tb, 1, none⟩ (.slice (some ⟨g7, 0, none⟩) (E + 1) c7)
  have b1 := (Below.refl base w).grown ga hb (by simp)
  have b2 := b1.grown hg (Nat.le_trans hb b1.size) (fun k e => by simp at e; subst e; exact hge)
  have b3 := b2.grown gs (Nat.le_trans hb b2.size) (fun k e => by simp at e; subst e; exact h4)
  refine ⟨m1, ⟨?_, own_other m2 gs m1 (by decide), own_other hown gs m1 (by decide), h4⟩, b3⟩
  rw [heap_setCell_same w7 tb 1 _ 63 _ m1]; rfl
theorem node_step {w w7 : World} {tb base gn cn N ge ce E g7 c7 : Nat} {xs ys zs : List Value} {X : Obj} (h : TI w tb base gn cn N ge ce E xs ys) (hb : base ≤ w.heap.size) (hown : w7.ownsRow base 88 4 (.slice (some ⟨g7, 0, none⟩) (N + 1) c7) (N + 1) (xs ++ zs)) (hg : (w.alloc X).grownBy w7 (some gn)) :
    w7.heap[tb]? = some (.cells (trCells (.slice (some ⟨gn, 0, none⟩) N cn) (.slice (some ⟨ge, 0, none⟩) E ce)) 63 (0, 0)) ∧
    TI (w7.setCell ⟨tb, 0, none⟩ (.slice (some ⟨g7, 0, none⟩) (N + 1) c7)) tb base g7 c7 (N + 1) ge ce E (xs ++ zs) ys ∧ Below base w (w7.setCell ⟨tb, 0, none⟩ (.slice (some ⟨g7, 0, none⟩) (N + 1) c7)) := by
  obtain ⟨h1, h2, h3, h4⟩ := h
  have ga := World.grownBy_alloc w X none
  have k1 := blk_none ga h1
  have k2 := own_none h2 ga
  have k3 := own_none h3 ga
  obtain ⟨hge, cur, hh⟩ := own_block k2 (g := gn) rfl
  have m1 := blk_other hg hh k1 (by decide)
  have m2 := own_other k3 hg hh (by decide)
  have gs := grownBy_setCell w7 ⟨tb, 0, none⟩ (.slice (some ⟨g7, 0, none⟩) (N + 1) c7)
  have b1 := (Below.refl base w).grown ga hb (by simp)
  have b2 := b1.grown hg (Nat.le_trans hb b1.size) (fun k e => by simp at e; subst e; exact hge)
  have b3 := b2.grown gs (Nat.le_trans hb b2.size) (fun k e => by simp at e; subst e; exact h4)
  refine ⟨m1, ⟨?_, own_other hown gs m1 (by decide), own_other m2 gs m1 (by decide), h4⟩, b3⟩
  rw [heap_setCell_same w7 tb 0 _ 63 _ m1]; rfl

theorem NodeOk.stored {xs : List Value} {N E v c : Nat} (h : NodeOk xs N E) (hl : xs.length = N * 4) (hv : v < N) (hc : c ≤ 3) : NodeOk ((xs.set (v * 4) (.int .u32 (E : Nat))).set (v * 4 + 1) (.int .u32 (c : Nat))) N (E + c) := by
  intro u hu
  obtain ⟨f, d, x, y, h0, h1, h2, h3, h4, h5⟩ := h u hu
  by_cases e : u = v
  · subst e
    refine ⟨E, c, x, y, ?_, ?_, ?_, ?_, Nat.le_refl _, hc⟩
    · rw [List.getElem?_set_ne (by omega), List.getElem?_set_self (by omega)]
    · rw [List.getElem?_set_self (by simp; omega)]
    · rw [List.getElem?_set_ne (by omega), List.getElem?_set_ne (by omega)]; exact h2
    · rw [List.getElem?_set_ne (by omega), List.getElem?_set_ne (by omega)]; exact h3
  · refine ⟨f, d, x, y, ?_, ?_, ?_, ?_, by omega, h5⟩ <;> rw [List.getElem?_set_ne (by omega), List.getElem?_set_ne (by omega)] <;> assumption
theorem NodeOk.add {xs : List Value} {N B : Nat} {x y : Int} (h : NodeOk xs N B) (hl : xs.length = N * 4) : NodeOk (xs ++ [.int .u32 0, .int .u32 0, .int .u32 x, .int .u32 y]) (N + 1) B := by
  intro u hu
  by_cases e : u < N
  · obtain ⟨f, d, x, y, h0, h1, h2, h3, h4, h5⟩ := h u e
    refine ⟨f, d, x, y, ?_, ?_, ?_, ?_, h4, h5⟩ <;> rw [List.getElem?_append_left (by omega)] <;> assumption
  · obtain rfl : u = N := by omega
    refine ⟨0, 0, x, y, ?_, ?_, ?_, ?_, by omega, by omega⟩
    · rw [List.getElem?_append_right (by omega), show u * 4 - xs.length = 0 by omega]; rfl
    · rw [List.getElem?_append_right (by omega), show u * 4 + 1 - xs.length = 1 by omega]; rfl
    · rw [List.getElem?_append_right (by omega), show u * 4 + 2 - xs.length = 2 by omega]; rfl
    · rw [List.getElem?_append_right (by omega), show u * 4 + 3 - xs.length = 3 by omega]; rfl
theorem EdgeOk.add {ys : List Value} {E c : Nat} (h : EdgeOk ys E) (hl : ys.length = E) (hc : c ∈ tab) : EdgeOk (ys ++ [.int .i32 (c : Nat)]) (E + 1) := by
  intro u hu
  by_cases e : u < E
  · obtain ⟨d, hd, h1⟩ := h u e
    exact ⟨d, hd, by rw [List.getElem?_append_left (by omega)]; exact h1⟩
  · obtain rfl : u = E := by omega
    exact ⟨c, hc, by rw [List.getElem?_append_right (by omega), show u - ys.length = 0 by omega]; rfl⟩

/-- append of at least one element to a slice that owns its row: the new slice written out -/
theorem wpList_append_shape {P : Program} (w : World) {ops : Array Oper} {rest : List Oper} {o : Oper} {a : Act} {Q : Exit → Act → World → Prop} (hgd : o.guard = none) (s x : Operand) (t : TypeId)
    (ho : o.op = .call { callee := .builtin .append, args := #[s, x], argTypes := #[t, t] })
    (base : Nat) (e : TypeId) (i : TypeInfo) (z : Value) (size bytes : Nat) (ht : P.underlying t = some (.slice e)) (hi : P.info? e = some i) (hz : i.zero = some z)
    (hsize : i.size = size) (hby : i.bytes = bytes) (hzs : z.cells.size = size) (hsz : 0 < size)
    (v : Value) (n : Nat) (xs : List Value) (hs : a.eval s = v) (hown : w.ownsRow base e size v n xs)
    (ad : Addr) (m c : Nat) (news : List Value) (hx : a.eval x = .slice (some ad) m c) (hl : news.length = m * size) (hnews : ∀ j u, news[j]? = some u → w.cell? (ad.add j) = some u) (h1 : ∀ u ∈ news, u.oneCell' = true)
    (h63 : n + m ≤ maxLen) (hbytes : (n + m) * bytes ≤ 140737488355328) (hbase : base ≤ w.heap.size) (hm : 0 < m)
    (h : ∀ g cap w', w'.ownsRow base e size (.slice (some ⟨g, 0, none⟩) (n + m) cap) (n + m) (xs ++ news) → w.grownBy w' v.ownBlock → wpList P ops Q rest (a.put o.dst (.slice (some ⟨g, 0, none⟩) (n + m) cap)) w') : wpList P ops Q (o :: rest) a w :=
  wpList_append_own w hgd s x t ho base e i z size bytes ht hi hz hsize hby hzs hsz v n xs hs hown ad m c news hx hl hnews h1 h63 hbytes hbase fun v' w' h2 h3 _ => by
    obtain ⟨g, cap, rfl⟩ := own_form h2 (by omega)
    exact h g cap w' h2 h3

theorem info21 : (Ybad.prog.info? 21).map (fun i => (i.zero, i.size, i.bytes)) = some (some (.int .i32 0), 1, 4) := by kernel_rfl
theorem info88 : (Ybad.prog.info? 88).map (fun i => (i.zero, i.size, i.bytes)) = some (some (.agg #[.int .u32 0, .int .u32 0, .int .u32 0, .int .u32 0]), 4, 16) := by kernel_rfl

/-- the cells of a block that was laid last -/
theorem new_cells (w : World) (cs : List Value) (e : TypeId) : ∀ j v, cs[j]? = some v → (w.alloc (.cells cs.toArray e)).cell? ((⟨w.heap.size, 0, none⟩ : Addr).add j) = some v := by
  intro j v hj
  have hh : (w.alloc (.cells cs.toArray e)).heap[w.heap.size]? = some (.cells cs.toArray e (0, 0)) := heap_alloc_new w _
  rw [show ((⟨w.heap.size, 0, none⟩ : Addr).add j) = ⟨w.heap.size, j, none⟩ from by unfold Addr.add; by_cases e : j = 0 <;> simp [e], cell_of_row _ _ _ _ e (0, 0) hh]
  simpa using hj
theorem one_i32 (c : Int) : ∀ u ∈ [Value.int .i32 c], u.oneCell' = true := by
  intro v hv
  simp at hv
  subst hv; rfl
theorem one_u32 (a b c d : Int) : ∀ u ∈ [Value.int .u32 a, .int .u32 b, .int .u32 c, .int .u32 d], u.oneCell' = true := by
  intro v hv
  simp at hv
  rcases hv with rfl | rfl | rfl | rfl <;> rfl

theorem isAt (d : Nat) {P : Program} {ops : Array Oper} {rest : List Oper} {op : Op} {ty : TypeId} {ps : String} {af : Array _} {g : Option _} {a : Act} {w : World} {Q : Exit → Act → World → Prop} (h : wpList P ops Q ({ dst := some d, op := op, type := ty, pos := ps, after := af, guard := g } :: rest) a w) :
    wpList P ops Q ({ dst := some d, op := op, type := ty, pos := ps, after := af, guard := g } :: rest) a w := h
def tabStr : Value := .string { data := #[33, 35, 36, 37, 38, 42, 43, 44, 45, 46, 47, 97, 98, 48, 122, 63] }
theorem tab_run (w : World) : ∀ m : Nat, m < 16 → ∃ c : Nat, c ∈ tab ∧ (Instr.index 9 tabStr (.int .i64 (m : Int))).run Ybad.prog w = .ok (.int .u8 (c : Nat)) w
  | 0, _ => ⟨33, by decide, by kernel_rfl⟩
  | 1, _ => ⟨35, by decide, by kernel_rfl⟩
  | 2, _ => ⟨36, by decide, by kernel_rfl⟩
  | 3, _ => ⟨37, by decide, by kernel_rfl⟩
  | 4, _ => ⟨38, by decide, by kernel_rfl⟩
  | 5, _ => ⟨42, by decide, by kernel_rfl⟩
  | 6, _ => ⟨43, by decide, by kernel_rfl⟩
  | 7, _ => ⟨44, by decide, by kernel_rfl⟩
  | 8, _ => ⟨45, by decide, by kernel_rfl⟩
  | 9, _ => ⟨46, by decide, by kernel_rfl⟩
  | 10, _ => ⟨47, by decide, by kernel_rfl⟩
  | 11, _ => ⟨97, by decide, by kernel_rfl⟩
  | 12, _ => ⟨98, by decide, by kernel_rfl⟩
  | 13, _ => ⟨48, by decide, by kernel_rfl⟩
  | 14, _ => ⟨122, by decide, by kernel_rfl⟩
  | 15, _ => ⟨63, by decide, by kernel_rfl⟩
  | m + 16, h => absurd h (by omega)
theorem tab_lt : ∀ c ∈ tab, c < 128 := by decide
theorem wpList_table {ops : Array Oper} {rest : List Oper} {ty : TypeId} {ps : String} {af : Array _} {a : Act} {w : World} {Q : Exit → Act → World → Prop} (x : Operand) (m : Nat) (L : Int) (hx : a.eval x = .int .i64 L) (hL : L = (m : Int)) (hm : m < 16)
    (h : ∀ c : Nat, c ∈ tab → c < 128 → wpList Ybad.prog ops Q rest (a.put (some 87) (.int .u8 (c : Int))) w) : wpList Ybad.prog ops Q ({ dst := some 87, op := Op.index 9 (.const tabStr) x, type := ty, pos := ps, after := af, guard := none } :: rest) a w := by
  refine wpList_plain rfl fun K hK' => ?_
  obtain ⟨c, hc, hrun⟩ := tab_run w m hm
  subst hL
  have e : a.eval (.const tabStr) = tabStr := rfl
  unfold Oper.wp
  simp [execOp, hx, e, hrun, Result.andThen]
  exact hK' _ _ (h c hc (tab_lt c hc))

theorem drew1 {base : Nat} {w w' : World} (h : Below base w w') : Below base w w'.drew := h.trans ⟨rfl, rfl, rfl, Nat.le_refl _, fun _ _ => rfl⟩

set_option maxRecDepth 100000 in
set_option maxHeartbeats 2000000 in
theorem btrie_any (w : World) (base : Nat) (hb : base ≤ w.heap.size) (a0 a1 : Option Addr) (n0 c0 n1 c1 : Nat) (h0 : NumRow w base .u8 256 a0 n0) (h1 : NumRow w base .u8 256 a1 n1) :
    Calls Ybad.prog 4 #[.slice a0 n0 c0, .slice a1 n1 c1] w fun e w' => ∃ tb gn cn N ge ce E xs ys, e = .returned (.pointer (some ⟨tb, 0, none⟩)) ∧ TI w' tb base gn cn N ge ce E xs ys ∧ NodeOk xs N E ∧ EdgeOk ys E ∧ N = E + 1 ∧ N ≤ 64 ∧ Below base w w' := by
  have k1 := mk53
  have k2 := mk38
  have HP := hide (And.intro h0 h1)
  clear h0 h1
  go_enter Ybad.func4, Ybad.ntmps4
  go_wp2_with fail
  go_region
  all_goals clear k1 k2
  · obtain ⟨w1, hw1⟩ : ∃ w1 : World, w1 = (((w.alloc (.cells nodeCs 88)).alloc (.cells edgeCs 21)).alloc (.cells (trCells (.slice (some ⟨w.heap.size, 0, none⟩) 1 64) (.slice (some ⟨w.heap.size + 1, 0, none⟩) 0 63)) 63)).drew := ⟨_, rfl⟩
    simp only [trCells] at hw1
    rw [← hw1]
    have H1 := hide (show ∃ tb gn cn N ge ce E xs ys, tb = w.heap.size + 1 + 1 ∧ TI w1 tb base gn cn N ge ce E xs ys ∧ NodeOk xs N E ∧ EdgeOk ys E ∧ N = E + 1 ∧ N ≤ 64 ∧ Below base w w1 from by
      obtain ⟨t1, t2, t3⟩ := three_alloc w (.cells nodeCs 88) (.cells edgeCs 21) (.cells (trCells (.slice (some ⟨w.heap.size, 0, none⟩) 1 64) (.slice (some ⟨w.heap.size + 1, 0, none⟩) 0 63)) 63)
      refine ⟨_, w.heap.size, 64, 1, (w.heap.size + 1), 63, 0, _, [], rfl, ?_, nodeOk_zero, fun i hi => by omega, rfl, by omega, ?_⟩
      · rw [hw1]
        exact ⟨t3, own_nodes t1 hb, own_edges t2 (by omega), by omega⟩
      · rw [hw1]
        exact three_below _ _ _ _ hb)
    clear hw1
    generalize w.heap.size + 1 + 1 = tb at *
    go_wp2_with fail
    go_loopw [6] (fun u wr => ∃ v : Nat, u = .int .i64 (v : Int) ∧ v ≤ 64 ∧ Hid (∃ gn cn N ge ce E xs ys, v ≤ N ∧ TI wr tb base gn cn N ge ce E xs ys ∧ NodeOk xs N E ∧ EdgeOk ys E ∧ N = E + 1 ∧ N ≤ 64 ∧ Below base w wr)) (fun u _ => 64 - (intOf u).toNat)
    case atStart =>
      obtain ⟨_, gn, cn, N, ge, ce, E, xs, ys, rfl, hT, hN, hE, h1, h2, hB⟩ := H1.out
      exact ⟨0, rfl, by omega, gn, cn, N, ge, ce, E, xs, ys, by omega, hT, hN, hE, h1, h2, hB⟩
    case round =>
      obtain ⟨v, rfl, hv64, HR⟩ := hrel
      obtain ⟨gn, cn, N, ge, ce, E, xs, ys, hvN, hT, hNo, hEo, hNE, hN64, hB⟩ := HR.out
      subst hNE
      have hsz : base ≤ wr.heap.size := Nat.le_trans hb hB.size
      have q0 : wr.cell? ⟨tb, 0, none⟩ = some (.slice (some ⟨gn, 0, none⟩) (E + 1) cn) := by rw [cell_of_row wr _ _ _ 63 (0, 0) hT.1]; rfl
      have q1 : wr.cell? ⟨tb, 1, none⟩ = some (.slice (some ⟨ge, 0, none⟩) E ce) := by rw [cell_of_row wr _ _ _ 63 (0, 0) hT.1]; rfl
      have ff := hT.2.1.frozenAt
      by_cases hvv : v < E + 1
      · obtain ⟨f0, d0, x0, y0, m0, m1, m2, m3, -⟩ := hNo v hvv
        have z0 : wr.cell? ⟨gn, v * 4, none⟩ = some (.int .u32 (f0 : Nat)) := by rw [hT.2.1.cellAt _ (by omega)]; exact m0
        have HT := hide (And.intro hT (And.intro hNo (And.intro hEo (And.intro hB m1))))
        clear HR hT hNo hEo hB m0 m1 m2 m3
        by_cases hv0 : v < n0
        · obtain ⟨g, off, x, rfl, hg, hc, hx⟩ := (HP.out.1.kept HT.out.2.2.2.1) v hv0
          by_cases hroom : 64 - ((E : Int) + 1) < (x : Int) % 4
          · go_wp2_with fail
            obtain ⟨cc, hcc⟩ : ∃ cc : Nat, 64 - ((E : Int) + 1) = (cc : Int) := ⟨63 - E, by omega⟩
            simp only [hcc]
            have hc3 : cc ≤ 3 := by omega
            have hcE : cc + E ≤ 63 := by omega
            clear hcc
            have df := HT.out.1.2.1.frozenAt (v * 4)
            go_region
            obtain ⟨w2, hw2⟩ : ∃ w2 : World, w2 = (wr.setCell ⟨gn, v * 4, none⟩ (.int .u32 (E : Int))).drew := ⟨_, rfl⟩
            rw [← hw2]
            have hT2 : TI w2 tb base gn cn (E + 1) ge ce E (xs.set (v * 4) (.int .u32 (E : Int))) ys := by rw [hw2]; exact (HT.out.1.set _ _).drew
            have hB2 : Below base w w2 := by rw [hw2]; exact drew1 (HT.out.2.2.2.1.trans (HT.out.1.below _ _ hsz))
            have hs2 := Nat.le_trans hb hB2.size
            have p0 : w2.cell? ⟨tb, 0, none⟩ = some (.slice (some ⟨gn, 0, none⟩) (E + 1) cn) := by rw [cell_of_row w2 _ _ _ 63 (0, 0) hT2.1]; rfl
            have p1 : w2.cell? ⟨gn, v * 4 + 1, none⟩ = some (.int .u32 (d0 : Nat)) := by rw [hT2.2.1.cellAt _ (by omega), List.getElem?_set_ne (by omega)]; exact HT.out.2.2.2.2
            have pf : w2.frozen? ⟨gn, v * 4 + 1, none⟩ = false := hT2.2.1.frozenAt _
            have H2 := hide (And.intro hT2 hB2)
            clear hw2 hT2 hB2 q0 q1 z0 df
            go_wp2_with fail
            obtain ⟨w3, hw3⟩ : ∃ w3 : World, w3 = w2.setCell ⟨gn, v * 4 + 1, none⟩ (.int .u32 (cc : Int)) := ⟨_, rfl⟩
            rw [← hw3]
            have H3 := hide (show TI w3 tb base gn cn (E + 1) ge ce E ((xs.set (v * 4) (.int .u32 (E : Int))).set (v * 4 + 1) (.int .u32 (cc : Int))) ys ∧ NodeOk ((xs.set (v * 4) (.int .u32 (E : Int))).set (v * 4 + 1) (.int .u32 (cc : Int))) (E + 1) (E + cc) ∧ Below base w w3 from by
              rw [hw3]
              exact ⟨H2.out.1.set _ _, HT.out.2.1.stored HT.out.1.2.1.1 hvv (by omega), H2.out.2.trans (H2.out.1.below _ _ hs2)⟩)
            clear hw3 p0 p1 pf H2 hs2
            have HE := hide HT.out.2.2.1
            clear HT hsz ff
            try simp only [show decide ((v : Int) < (E : Int) + 1) = true by simp; omega]
            go_loopw [9] (fun u9 wr => ∃ i : Nat, i ≤ cc ∧ u9 = .int .i64 (i : Int) ∧ Hid (∃ gn cn ge ce xs ys, TI wr tb base gn cn (E + 1 + i) ge ce (E + i) xs ys ∧ NodeOk xs (E + 1 + i) (E + cc) ∧ EdgeOk ys (E + i) ∧ Below base w wr)) (fun u _ => cc - (intOf u).toNat)
            case atStart => exact ⟨0, Nat.zero_le _, rfl, gn, cn, ge, ce, _, _, H3.out.1, H3.out.2.1, HE.out, H3.out.2.2⟩
            case round =>
              obtain ⟨i, hi, rfl, HI⟩ := hrel
              by_cases hic : i < cc
              · obtain ⟨gn', cn', ge', ce', xs', ys', hT, hNo, hEo, hB⟩ := HI.out
                obtain ⟨M, hM⟩ : ∃ M, E + i = M := ⟨_, rfl⟩
                obtain ⟨K, hK⟩ : ∃ K, E + 1 + i = K := ⟨_, rfl⟩
                rw [hM] at hT hEo
                rw [hK] at hT hNo
                have hM62 : M ≤ 62 := by omega
                have hK63 : K ≤ 63 := by omega
                have HM := hide (And.intro hM hK)
                clear hM hK
                have hsr := Nat.le_trans hb hB.size
                have r1 : wr.cell? ⟨tb, 1, none⟩ = some (.slice (some ⟨ge', 0, none⟩) M ce') := by rw [cell_of_row wr _ _ _ 63 (0, 0) hT.1]; rfl
                have htl := lt_of_block hT.1
                have hown := hT.2.2.1
                have HT := hide (And.intro hT (And.intro hNo (And.intro hEo hB)))
                clear HI hT hNo hEo hB
                obtain ⟨j1, hi1, hz10, hz11, hz12⟩ := info_parts info21
                obtain ⟨j2, hi2, hz20, hz21, hz22⟩ := info_parts info88
                by_cases hch : M < n1
                · obtain ⟨g', off', x', rfl, hg', hc', hx'⟩ := (HP.out.2.kept HT.out.2.2.2) M hch
                  go_wp2_with (first | (refine isAt 87 ?_; refine wpList_table (.tmp 86) (x' % 16) _ rfl (by omega) (by omega) ?_; intro cch hcm hclt; have HC := hide hcm; clear hcm) | (at_builtin; refine isAt 96 ?_; refine wpList_append_shape _ rfl (.tmp 92) (.tmp 95) 38 rfl base 21 j1 _ 1 4 Ybad.underlying38 hi1 hz10 hz11 hz12 rfl (by decide) (.slice (some ⟨ge', 0, none⟩) M ce') M ys' rfl (hown.alloc _) ⟨wr.heap.size, 0, none⟩ 1 1 [.int .i32 (cch : Int)] rfl rfl (new_cells wr [.int .i32 (cch : Int)] 21) (one_i32 _) (by unfold maxLen; omega) (by omega) (by simp; omega) (by decide) ?_; intro g7 c7 w7 hown7 hgrow7; have S7 := hide (edge_step HT.out.1 hsr hown7 hgrow7); have s1 : w7.cell? ⟨tb, 1, none⟩ = some (.slice (some ⟨ge', 0, none⟩) M ce') := (by rw [cell_of_row w7 _ _ _ 63 (0, 0) S7.out.1]; rfl); have s0 : w7.cell? ⟨tb, 0, none⟩ = some (.slice (some ⟨gn', 0, none⟩) K cn') := (by rw [cell_of_row w7 _ _ _ 63 (0, 0) S7.out.1]; rfl); have sf := frozen_of_row w7 tb 1 _ 63 S7.out.1; have hs8 := Nat.le_trans hsr S7.out.2.2.size; have htl7 := lt_of_block S7.out.1; clear hown7 hgrow7) | (at_builtin; refine isAt 108 ?_; refine wpList_append_shape _ rfl (.tmp 103) (.tmp 107) 53 rfl base 88 j2 _ 4 16 Ybad.underlying53 hi2 hz20 hz21 hz22 rfl (by decide) (.slice (some ⟨gn', 0, none⟩) K cn') K xs' rfl (S7.out.2.1.2.1.alloc _) ⟨w7.heap.size, 0, none⟩ 1 1 [.int .u32 0, .int .u32 0, .int .u32 (v : Int), .int .u32 0] rfl rfl (by simpa using new_cells (w7.setCell ⟨tb, 1, none⟩ (.slice (some ⟨g7, 0, none⟩) (M + 1) c7)) [.int .u32 0, .int .u32 0, .int .u32 (v : Int), .int .u32 0] 88) (one_u32 _ _ _ _) (by unfold maxLen; omega) (by omega) (by simp; simp at hs8; omega) (by decide) ?_; intro g9 c9 w9 hown9 hgrow9; have S9 := hide (node_step S7.out.2.1 hs8 hown9 hgrow9); have u0 : w9.cell? ⟨tb, 0, none⟩ = some (.slice (some ⟨gn', 0, none⟩) K cn') := (by rw [cell_of_row w9 _ _ _ 63 (0, 0) S9.out.1]; rfl); have uf := frozen_of_row w9 tb 0 _ 63 S9.out.1; clear hown9 hgrow9))
                  clear hi1 hz10 hz11 hz12 hi2 hz20 hz21 hz22
                  go_roundw
                  case rel =>
                    have e1 : E + 1 + (i + 1) = K + 1 := by have := HM.out.2; omega
                    have e2 : E + (i + 1) = M + 1 := by have := HM.out.1; omega
                    refine ⟨i + 1, hic, by go_num, g9, c9, g7, c7, xs' ++ [.int .u32 0, .int .u32 0, .int .u32 (v : Int), .int .u32 0], ys' ++ [.int .i32 (cch : Int)], ?_, ?_, ?_, HT.out.2.2.2.trans (S7.out.2.2.trans S9.out.2.2)⟩
                    · rw [e1, e2]; exact S9.out.2.1
                    · rw [e1]; exact HT.out.2.1.add HT.out.1.2.1.1
                    · rw [e2]; exact HT.out.2.2.1.add (by simpa using HT.out.1.2.2.1.1) HC.out
                  case measure => simp [intOf]; omega
                · have HC := hide (show (97 : Nat) ∈ tab by decide)
                  go_wp2_with (first | (at_builtin; refine isAt 96 ?_; refine wpList_append_shape _ rfl (.tmp 92) (.tmp 95) 38 rfl base 21 j1 _ 1 4 Ybad.underlying38 hi1 hz10 hz11 hz12 rfl (by decide) (.slice (some ⟨ge', 0, none⟩) M ce') M ys' rfl (hown.alloc _) ⟨wr.heap.size, 0, none⟩ 1 1 [.int .i32 97] rfl rfl (new_cells wr [.int .i32 97] 21) (one_i32 _) (by unfold maxLen; omega) (by omega) (by simp; omega) (by decide) ?_; intro g7 c7 w7 hown7 hgrow7; have S7 := hide (edge_step HT.out.1 hsr hown7 hgrow7); have s1 : w7.cell? ⟨tb, 1, none⟩ = some (.slice (some ⟨ge', 0, none⟩) M ce') := (by rw [cell_of_row w7 _ _ _ 63 (0, 0) S7.out.1]; rfl); have s0 : w7.cell? ⟨tb, 0, none⟩ = some (.slice (some ⟨gn', 0, none⟩) K cn') := (by rw [cell_of_row w7 _ _ _ 63 (0, 0) S7.out.1]; rfl); have sf := frozen_of_row w7 tb 1 _ 63 S7.out.1; have hs8 := Nat.le_trans hsr S7.out.2.2.size; have htl7 := lt_of_block S7.out.1; clear hown7 hgrow7) | (at_builtin; refine isAt 108 ?_; refine wpList_append_shape _ rfl (.tmp 103) (.tmp 107) 53 rfl base 88 j2 _ 4 16 Ybad.underlying53 hi2 hz20 hz21 hz22 rfl (by decide) (.slice (some ⟨gn', 0, none⟩) K cn') K xs' rfl (S7.out.2.1.2.1.alloc _) ⟨w7.heap.size, 0, none⟩ 1 1 [.int .u32 0, .int .u32 0, .int .u32 (v : Int), .int .u32 0] rfl rfl (by simpa using new_cells (w7.setCell ⟨tb, 1, none⟩ (.slice (some ⟨g7, 0, none⟩) (M + 1) c7)) [.int .u32 0, .int .u32 0, .int .u32 (v : Int), .int .u32 0] 88) (one_u32 _ _ _ _) (by unfold maxLen; omega) (by omega) (by simp; simp at hs8; omega) (by decide) ?_; intro g9 c9 w9 hown9 hgrow9; have S9 := hide (node_step S7.out.2.1 hs8 hown9 hgrow9); have u0 : w9.cell? ⟨tb, 0, none⟩ = some (.slice (some ⟨gn', 0, none⟩) K cn') := (by rw [cell_of_row w9 _ _ _ 63 (0, 0) S9.out.1]; rfl); have uf := frozen_of_row w9 tb 0 _ 63 S9.out.1; clear hown9 hgrow9))
                  clear hi1 hz10 hz11 hz12 hi2 hz20 hz21 hz22
                  go_roundw
                  case rel =>
                    have e1 : E + 1 + (i + 1) = K + 1 := by have := HM.out.2; omega
                    have e2 : E + (i + 1) = M + 1 := by have := HM.out.1; omega
                    refine ⟨i + 1, hic, by go_num, g9, c9, g7, c7, xs' ++ [.int .u32 0, .int .u32 0, .int .u32 (v : Int), .int .u32 0], ys' ++ [.int .i32 97], ?_, ?_, ?_, HT.out.2.2.2.trans (S7.out.2.2.trans S9.out.2.2)⟩
                    · rw [e1, e2]; exact S9.out.2.1
                    · rw [e1]; exact HT.out.2.1.add HT.out.1.2.1.1
                    · rw [e2]; exact HT.out.2.2.1.add (by simpa using HT.out.1.2.2.1.1) HC.out
                  case measure => simp [intOf]; omega
              · obtain rfl : i = cc := by omega
                go_wp2_with fail
                obtain ⟨gn', cn', ge', ce', xs', ys', hT, hNo, hEo, hB⟩ := HI.out
                go_roundw
                case rel => exact ⟨v + 1, by go_num, by omega, gn', cn', _, ge', ce', _, xs', ys', by omega, hT, hNo, hEo, by omega, by omega, hB⟩
                case measure => simp [intOf]; omega
          · go_wp2_with fail
            obtain ⟨cc, hcc⟩ : ∃ cc : Nat, (x : Int) % 4 = (cc : Int) := ⟨x % 4, by omega⟩
            simp only [hcc]
            have hc3 : cc ≤ 3 := by omega
            have hcE : cc + E ≤ 63 := by omega
            clear hcc
            have df := HT.out.1.2.1.frozenAt (v * 4)
            go_region
            obtain ⟨w2, hw2⟩ : ∃ w2 : World, w2 = (wr.setCell ⟨gn, v * 4, none⟩ (.int .u32 (E : Int))).drew := ⟨_, rfl⟩
            rw [← hw2]
            have hT2 : TI w2 tb base gn cn (E + 1) ge ce E (xs.set (v * 4) (.int .u32 (E : Int))) ys := by rw [hw2]; exact (HT.out.1.set _ _).drew
            have hB2 : Below base w w2 := by rw [hw2]; exact drew1 (HT.out.2.2.2.1.trans (HT.out.1.below _ _ hsz))
            have hs2 := Nat.le_trans hb hB2.size
            have p0 : w2.cell? ⟨tb, 0, none⟩ = some (.slice (some ⟨gn, 0, none⟩) (E + 1) cn) := by rw [cell_of_row w2 _ _ _ 63 (0, 0) hT2.1]; rfl
            have p1 : w2.cell? ⟨gn, v * 4 + 1, none⟩ = some (.int .u32 (d0 : Nat)) := by rw [hT2.2.1.cellAt _ (by omega), List.getElem?_set_ne (by omega)]; exact HT.out.2.2.2.2
            have pf : w2.frozen? ⟨gn, v * 4 + 1, none⟩ = false := hT2.2.1.frozenAt _
            have H2 := hide (And.intro hT2 hB2)
            clear hw2 hT2 hB2 q0 q1 z0 df
            go_wp2_with fail
            obtain ⟨w3, hw3⟩ : ∃ w3 : World, w3 = w2.setCell ⟨gn, v * 4 + 1, none⟩ (.int .u32 (cc : Int)) := ⟨_, rfl⟩
            rw [← hw3]
            have H3 := hide (show TI w3 tb base gn cn (E + 1) ge ce E ((xs.set (v * 4) (.int .u32 (E : Int))).set (v * 4 + 1) (.int .u32 (cc : Int))) ys ∧ NodeOk ((xs.set (v * 4) (.int .u32 (E : Int))).set (v * 4 + 1) (.int .u32 (cc : Int))) (E + 1) (E + cc) ∧ Below base w w3 from by
              rw [hw3]
              exact ⟨H2.out.1.set _ _, HT.out.2.1.stored HT.out.1.2.1.1 hvv (by omega), H2.out.2.trans (H2.out.1.below _ _ hs2)⟩)
            clear hw3 p0 p1 pf H2 hs2
            have HE := hide HT.out.2.2.1
            clear HT hsz ff
            try simp only [show decide ((v : Int) < (E : Int) + 1) = true by simp; omega]
            try simp only [show decide (64 - ((E : Int) + 1) < (cc : Int)) = false by simp; omega]
            go_loopw [9] (fun u9 wr => ∃ i : Nat, i ≤ cc ∧ u9 = .int .i64 (i : Int) ∧ Hid (∃ gn cn ge ce xs ys, TI wr tb base gn cn (E + 1 + i) ge ce (E + i) xs ys ∧ NodeOk xs (E + 1 + i) (E + cc) ∧ EdgeOk ys (E + i) ∧ Below base w wr)) (fun u _ => cc - (intOf u).toNat)
            case atStart => exact ⟨0, Nat.zero_le _, rfl, gn, cn, ge, ce, _, _, H3.out.1, H3.out.2.1, HE.out, H3.out.2.2⟩
            case round =>
              obtain ⟨i, hi, rfl, HI⟩ := hrel
              by_cases hic : i < cc
              · obtain ⟨gn', cn', ge', ce', xs', ys', hT, hNo, hEo, hB⟩ := HI.out
                obtain ⟨M, hM⟩ : ∃ M, E + i = M := ⟨_, rfl⟩
                obtain ⟨K, hK⟩ : ∃ K, E + 1 + i = K := ⟨_, rfl⟩
                rw [hM] at hT hEo
                rw [hK] at hT hNo
                have hM62 : M ≤ 62 := by omega
                have hK63 : K ≤ 63 := by omega
                have HM := hide (And.intro hM hK)
                clear hM hK
                have hsr := Nat.le_trans hb hB.size
                have r1 : wr.cell? ⟨tb, 1, none⟩ = some (.slice (some ⟨ge', 0, none⟩) M ce') := by rw [cell_of_row wr _ _ _ 63 (0, 0) hT.1]; rfl
                have htl := lt_of_block hT.1
                have hown := hT.2.2.1
                have HT := hide (And.intro hT (And.intro hNo (And.intro hEo hB)))
                clear HI hT hNo hEo hB
                obtain ⟨j1, hi1, hz10, hz11, hz12⟩ := info_parts info21
                obtain ⟨j2, hi2, hz20, hz21, hz22⟩ := info_parts info88
                by_cases hch : M < n1
                · obtain ⟨g', off', x', rfl, hg', hc', hx'⟩ := (HP.out.2.kept HT.out.2.2.2) M hch
                  go_wp2_with (first | (refine isAt 87 ?_; refine wpList_table (.tmp 86) (x' % 16) _ rfl (by omega) (by omega) ?_; intro cch hcm hclt; have HC := hide hcm; clear hcm) | (at_builtin; refine isAt 96 ?_; refine wpList_append_shape _ rfl (.tmp 92) (.tmp 95) 38 rfl base 21 j1 _ 1 4 Ybad.underlying38 hi1 hz10 hz11 hz12 rfl (by decide) (.slice (some ⟨ge', 0, none⟩) M ce') M ys' rfl (hown.alloc _) ⟨wr.heap.size, 0, none⟩ 1 1 [.int .i32 (cch : Int)] rfl rfl (new_cells wr [.int .i32 (cch : Int)] 21) (one_i32 _) (by unfold maxLen; omega) (by omega) (by simp; omega) (by decide) ?_; intro g7 c7 w7 hown7 hgrow7; have S7 := hide (edge_step HT.out.1 hsr hown7 hgrow7); have s1 : w7.cell? ⟨tb, 1, none⟩ = some (.slice (some ⟨ge', 0, none⟩) M ce') := (by rw [cell_of_row w7 _ _ _ 63 (0, 0) S7.out.1]; rfl); have s0 : w7.cell? ⟨tb, 0, none⟩ = some (.slice (some ⟨gn', 0, none⟩) K cn') := (by rw [cell_of_row w7 _ _ _ 63 (0, 0) S7.out.1]; rfl); have sf := frozen_of_row w7 tb 1 _ 63 S7.out.1; have hs8 := Nat.le_trans hsr S7.out.2.2.size; have htl7 := lt_of_block S7.out.1; clear hown7 hgrow7) | (at_builtin; refine isAt 108 ?_; refine wpList_append_shape _ rfl (.tmp 103) (.tmp 107) 53 rfl base 88 j2 _ 4 16 Ybad.underlying53 hi2 hz20 hz21 hz22 rfl (by decide) (.slice (some ⟨gn', 0, none⟩) K cn') K xs' rfl (S7.out.2.1.2.1.alloc _) ⟨w7.heap.size, 0, none⟩ 1 1 [.int .u32 0, .int .u32 0, .int .u32 (v : Int), .int .u32 0] rfl rfl (by simpa using new_cells (w7.setCell ⟨tb, 1, none⟩ (.slice (some ⟨g7, 0, none⟩) (M + 1) c7)) [.int .u32 0, .int .u32 0, .int .u32 (v : Int), .int .u32 0] 88) (one_u32 _ _ _ _) (by unfold maxLen; omega) (by omega) (by simp; simp at hs8; omega) (by decide) ?_; intro g9 c9 w9 hown9 hgrow9; have S9 := hide (node_step S7.out.2.1 hs8 hown9 hgrow9); have u0 : w9.cell? ⟨tb, 0, none⟩ = some (.slice (some ⟨gn', 0, none⟩) K cn') := (by rw [cell_of_row w9 _ _ _ 63 (0, 0) S9.out.1]; rfl); have uf := frozen_of_row w9 tb 0 _ 63 S9.out.1; clear hown9 hgrow9))
                  clear hi1 hz10 hz11 hz12 hi2 hz20 hz21 hz22
                  go_roundw
                  case rel =>
                    have e1 : E + 1 + (i + 1) = K + 1 := by have := HM.out.2; omega
                    have e2 : E + (i + 1) = M + 1 := by have := HM.out.1; omega
                    refine ⟨i + 1, hic, by go_num, g9, c9, g7, c7, xs' ++ [.int .u32 0, .int .u32 0, .int .u32 (v : Int), .int .u32 0], ys' ++ [.int .i32 (cch : Int)], ?_, ?_, ?_, HT.out.2.2.2.trans (S7.out.2.2.trans S9.out.2.2)⟩
                    · rw [e1, e2]; exact S9.out.2.1
                    · rw [e1]; exact HT.out.2.1.add HT.out.1.2.1.1
                    · rw [e2]; exact HT.out.2.2.1.add (by simpa using HT.out.1.2.2.1.1) HC.out
                  case measure => simp [intOf]; omega
                · have HC := hide (show (97 : Nat) ∈ tab by decide)
                  go_wp2_with (first | (at_builtin; refine isAt 96 ?_; refine wpList_append_shape _ rfl (.tmp 92) (.tmp 95) 38 rfl base 21 j1 _ 1 4 Ybad.underlying38 hi1 hz10 hz11 hz12 rfl (by decide) (.slice (some ⟨ge', 0, none⟩) M ce') M ys' rfl (hown.alloc _) ⟨wr.heap.size, 0, none⟩ 1 1 [.int .i32 97] rfl rfl (new_cells wr [.int .i32 97] 21) (one_i32 _) (by unfold maxLen; omega) (by omega) (by simp; omega) (by decide) ?_; intro g7 c7 w7 hown7 hgrow7; have S7 := hide (edge_step HT.out.1 hsr hown7 hgrow7); have s1 : w7.cell? ⟨tb, 1, none⟩ = some (.slice (some ⟨ge', 0, none⟩) M ce') := (by rw [cell_of_row w7 _ _ _ 63 (0, 0) S7.out.1]; rfl); have s0 : w7.cell? ⟨tb, 0, none⟩ = some (.slice (some ⟨gn', 0, none⟩) K cn') := (by rw [cell_of_row w7 _ _ _ 63 (0, 0) S7.out.1]; rfl); have sf := frozen_of_row w7 tb 1 _ 63 S7.out.1; have hs8 := Nat.le_trans hsr S7.out.2.2.size; have htl7 := lt_of_block S7.out.1; clear hown7 hgrow7) | (at_builtin; refine isAt 108 ?_; refine wpList_append_shape _ rfl (.tmp 103) (.tmp 107) 53 rfl base 88 j2 _ 4 16 Ybad.underlying53 hi2 hz20 hz21 hz22 rfl (by decide) (.slice (some ⟨gn', 0, none⟩) K cn') K xs' rfl (S7.out.2.1.2.1.alloc _) ⟨w7.heap.size, 0, none⟩ 1 1 [.int .u32 0, .int .u32 0, .int .u32 (v : Int), .int .u32 0] rfl rfl (by simpa using new_cells (w7.setCell ⟨tb, 1, none⟩ (.slice (some ⟨g7, 0, none⟩) (M + 1) c7)) [.int .u32 0, .int .u32 0, .int .u32 (v : Int), .int .u32 0] 88) (one_u32 _ _ _ _) (by unfold maxLen; omega) (by omega) (by simp; simp at hs8; omega) (by decide) ?_; intro g9 c9 w9 hown9 hgrow9; have S9 := hide (node_step S7.out.2.1 hs8 hown9 hgrow9); have u0 : w9.cell? ⟨tb, 0, none⟩ = some (.slice (some ⟨gn', 0, none⟩) K cn') := (by rw [cell_of_row w9 _ _ _ 63 (0, 0) S9.out.1]; rfl); have uf := frozen_of_row w9 tb 0 _ 63 S9.out.1; clear hown9 hgrow9))
                  clear hi1 hz10 hz11 hz12 hi2 hz20 hz21 hz22
                  go_roundw
                  case rel =>
                    have e1 : E + 1 + (i + 1) = K + 1 := by have := HM.out.2; omega
                    have e2 : E + (i + 1) = M + 1 := by have := HM.out.1; omega
                    refine ⟨i + 1, hic, by go_num, g9, c9, g7, c7, xs' ++ [.int .u32 0, .int .u32 0, .int .u32 (v : Int), .int .u32 0], ys' ++ [.int .i32 97], ?_, ?_, ?_, HT.out.2.2.2.trans (S7.out.2.2.trans S9.out.2.2)⟩
                    · rw [e1, e2]; exact S9.out.2.1
                    · rw [e1]; exact HT.out.2.1.add HT.out.1.2.1.1
                    · rw [e2]; exact HT.out.2.2.1.add (by simpa using HT.out.1.2.2.1.1) HC.out
                  case measure => simp [intOf]; omega
              · obtain rfl : i = cc := by omega
                go_wp2_with fail
                obtain ⟨gn', cn', ge', ce', xs', ys', hT, hNo, hEo, hB⟩ := HI.out
                go_roundw
                case rel => exact ⟨v + 1, by go_num, by omega, gn', cn', _, ge', ce', _, xs', ys', by omega, hT, hNo, hEo, by omega, by omega, hB⟩
                case measure => simp [intOf]; omega
        · go_wp2_with fail
          obtain ⟨cc, hcc⟩ : ∃ cc : Nat, cc = 0 := ⟨0, rfl⟩
          have hc3 : cc ≤ 3 := by omega
          have hcE : cc + E ≤ 63 := by omega
          have df := HT.out.1.2.1.frozenAt (v * 4)
          go_region
          obtain ⟨w2, hw2⟩ : ∃ w2 : World, w2 = (wr.setCell ⟨gn, v * 4, none⟩ (.int .u32 (E : Int))).drew := ⟨_, rfl⟩
          rw [← hw2]
          have hT2 : TI w2 tb base gn cn (E + 1) ge ce E (xs.set (v * 4) (.int .u32 (E : Int))) ys := by rw [hw2]; exact (HT.out.1.set _ _).drew
          have hB2 : Below base w w2 := by rw [hw2]; exact drew1 (HT.out.2.2.2.1.trans (HT.out.1.below _ _ hsz))
          have hs2 := Nat.le_trans hb hB2.size
          have p0 : w2.cell? ⟨tb, 0, none⟩ = some (.slice (some ⟨gn, 0, none⟩) (E + 1) cn) := by rw [cell_of_row w2 _ _ _ 63 (0, 0) hT2.1]; rfl
          have p1 : w2.cell? ⟨gn, v * 4 + 1, none⟩ = some (.int .u32 (d0 : Nat)) := by rw [hT2.2.1.cellAt _ (by omega), List.getElem?_set_ne (by omega)]; exact HT.out.2.2.2.2
          have pf : w2.frozen? ⟨gn, v * 4 + 1, none⟩ = false := hT2.2.1.frozenAt _
          have H2 := hide (And.intro hT2 hB2)
          clear hw2 hT2 hB2 q0 q1 z0 df
          go_wp2_with fail
          obtain ⟨w3, hw3⟩ : ∃ w3 : World, w3 = w2.setCell ⟨gn, v * 4 + 1, none⟩ (.int .u32 0) := ⟨_, rfl⟩
          rw [← hw3]
          have H3 := hide (show TI w3 tb base gn cn (E + 1) ge ce E ((xs.set (v * 4) (.int .u32 (E : Int))).set (v * 4 + 1) (.int .u32 (cc : Int))) ys ∧ NodeOk ((xs.set (v * 4) (.int .u32 (E : Int))).set (v * 4 + 1) (.int .u32 (cc : Int))) (E + 1) (E + cc) ∧ Below base w w3 from by
            rw [hw3]
            subst hcc
            exact ⟨H2.out.1.set _ _, HT.out.2.1.stored HT.out.1.2.1.1 hvv (by omega), H2.out.2.trans (H2.out.1.below _ _ hs2)⟩)
          clear hw3 p0 p1 pf H2 hs2
          have HE := hide HT.out.2.2.1
          clear HT hsz ff
          try simp only [show decide ((v : Int) < (E : Int) + 1) = true by simp; omega]
          go_loopw [9] (fun u9 wr => ∃ i : Nat, i ≤ cc ∧ u9 = .int .i64 (i : Int) ∧ Hid (∃ gn cn ge ce xs ys, TI wr tb base gn cn (E + 1 + i) ge ce (E + i) xs ys ∧ NodeOk xs (E + 1 + i) (E + cc) ∧ EdgeOk ys (E + i) ∧ Below base w wr)) (fun u _ => cc - (intOf u).toNat)
          case atStart => exact ⟨0, Nat.zero_le _, rfl, gn, cn, ge, ce, _, _, H3.out.1, H3.out.2.1, HE.out, H3.out.2.2⟩
          case round =>
            obtain ⟨i, hi, rfl, HI⟩ := hrel
            by_cases hic : i < cc
            · exfalso; omega
            · obtain rfl : i = 0 := by omega
              subst hcc
              go_wp2_with fail
              obtain ⟨gn', cn', ge', ce', xs', ys', hT, hNo, hEo, hB⟩ := HI.out
              go_roundw
              case rel => exact ⟨v + 1, by go_num, by omega, gn', cn', _, ge', ce', _, xs', ys', by omega, hT, hNo, hEo, by omega, by omega, hB⟩
              case measure => simp [intOf]; omega
      · obtain rfl : v = E + 1 := by omega
        go_wp2_with fail
        go_ret
        exact ⟨tb, gn, cn, E + 1, ge, ce, E, xs, ys, rfl, hT, hNo, hEo, rfl, hN64, hB⟩
  · obtain ⟨w1, hw1⟩ : ∃ w1 : World, w1 = (((w.alloc (.cells edgeCs 21)).alloc (.cells nodeCs 88)).alloc (.cells (trCells (.slice (some ⟨w.heap.size + 1, 0, none⟩) 1 64) (.slice (some ⟨w.heap.size, 0, none⟩) 0 63)) 63)).drew := ⟨_, rfl⟩
    simp only [trCells] at hw1
    rw [← hw1]
    have H1 := hide (show ∃ tb gn cn N ge ce E xs ys, tb = w.heap.size + 1 + 1 ∧ TI w1 tb base gn cn N ge ce E xs ys ∧ NodeOk xs N E ∧ EdgeOk ys E ∧ N = E + 1 ∧ N ≤ 64 ∧ Below base w w1 from by
      obtain ⟨t1, t2, t3⟩ := three_alloc w (.cells edgeCs 21) (.cells nodeCs 88) (.cells (trCells (.slice (some ⟨w.heap.size + 1, 0, none⟩) 1 64) (.slice (some ⟨w.heap.size, 0, none⟩) 0 63)) 63)
      refine ⟨_, (w.heap.size + 1), 64, 1, w.heap.size, 63, 0, _, [], rfl, ?_, nodeOk_zero, fun i hi => by omega, rfl, by omega, ?_⟩
      · rw [hw1]
        exact ⟨t3, own_nodes t2 (by omega), own_edges t1 hb, by omega⟩
      · rw [hw1]
        exact three_below _ _ _ _ hb)
    clear hw1
    generalize w.heap.size + 1 + 1 = tb at *
    go_wp2_with fail
    go_loopw [6] (fun u wr => ∃ v : Nat, u = .int .i64 (v : Int) ∧ v ≤ 64 ∧ Hid (∃ gn cn N ge ce E xs ys, v ≤ N ∧ TI wr tb base gn cn N ge ce E xs ys ∧ NodeOk xs N E ∧ EdgeOk ys E ∧ N = E + 1 ∧ N ≤ 64 ∧ Below base w wr)) (fun u _ => 64 - (intOf u).toNat)
    case atStart =>
      obtain ⟨_, gn, cn, N, ge, ce, E, xs, ys, rfl, hT, hN, hE, h1, h2, hB⟩ := H1.out
      exact ⟨0, rfl, by omega, gn, cn, N, ge, ce, E, xs, ys, by omega, hT, hN, hE, h1, h2, hB⟩
    case round =>
      obtain ⟨v, rfl, hv64, HR⟩ := hrel
      obtain ⟨gn, cn, N, ge, ce, E, xs, ys, hvN, hT, hNo, hEo, hNE, hN64, hB⟩ := HR.out
      subst hNE
      have hsz : base ≤ wr.heap.size := Nat.le_trans hb hB.size
      have q0 : wr.cell? ⟨tb, 0, none⟩ = some (.slice (some ⟨gn, 0, none⟩) (E + 1) cn) := by rw [cell_of_row wr _ _ _ 63 (0, 0) hT.1]; rfl
      have q1 : wr.cell? ⟨tb, 1, none⟩ = some (.slice (some ⟨ge, 0, none⟩) E ce) := by rw [cell_of_row wr _ _ _ 63 (0, 0) hT.1]; rfl
      have ff := hT.2.1.frozenAt
      by_cases hvv : v < E + 1
      · obtain ⟨f0, d0, x0, y0, m0, m1, m2, m3, -⟩ := hNo v hvv
        have z0 : wr.cell? ⟨gn, v * 4, none⟩ = some (.int .u32 (f0 : Nat)) := by rw [hT.2.1.cellAt _ (by omega)]; exact m0
        have HT := hide (And.intro hT (And.intro hNo (And.intro hEo (And.intro hB m1))))
        clear HR hT hNo hEo hB m0 m1 m2 m3
        by_cases hv0 : v < n0
        · obtain ⟨g, off, x, rfl, hg, hc, hx⟩ := (HP.out.1.kept HT.out.2.2.2.1) v hv0
          by_cases hroom : 64 - ((E : Int) + 1) < (x : Int) % 4
          · go_wp2_with fail
            obtain ⟨cc, hcc⟩ : ∃ cc : Nat, 64 - ((E : Int) + 1) = (cc : Int) := ⟨63 - E, by omega⟩
            simp only [hcc]
            have hc3 : cc ≤ 3 := by omega
            have hcE : cc + E ≤ 63 := by omega
            clear hcc
            have df := HT.out.1.2.1.frozenAt (v * 4)
            go_region
            obtain ⟨w2, hw2⟩ : ∃ w2 : World, w2 = (wr.setCell ⟨gn, v * 4, none⟩ (.int .u32 (E : Int))).drew := ⟨_, rfl⟩
            rw [← hw2]
            have hT2 : TI w2 tb base gn cn (E + 1) ge ce E (xs.set (v * 4) (.int .u32 (E : Int))) ys := by rw [hw2]; exact (HT.out.1.set _ _).drew
            have hB2 : Below base w w2 := by rw [hw2]; exact drew1 (HT.out.2.2.2.1.trans (HT.out.1.below _ _ hsz))
            have hs2 := Nat.le_trans hb hB2.size
            have p0 : w2.cell? ⟨tb, 0, none⟩ = some (.slice (some ⟨gn, 0, none⟩) (E + 1) cn) := by rw [cell_of_row w2 _ _ _ 63 (0, 0) hT2.1]; rfl
            have p1 : w2.cell? ⟨gn, v * 4 + 1, none⟩ = some (.int .u32 (d0 : Nat)) := by rw [hT2.2.1.cellAt _ (by omega), List.getElem?_set_ne (by omega)]; exact HT.out.2.2.2.2
            have pf : w2.frozen? ⟨gn, v * 4 + 1, none⟩ = false := hT2.2.1.frozenAt _
            have H2 := hide (And.intro hT2 hB2)
            clear hw2 hT2 hB2 q0 q1 z0 df
            go_wp2_with fail
            obtain ⟨w3, hw3⟩ : ∃ w3 : World, w3 = w2.setCell ⟨gn, v * 4 + 1, none⟩ (.int .u32 (cc : Int)) := ⟨_, rfl⟩
            rw [← hw3]
            have H3 := hide (show TI w3 tb base gn cn (E + 1) ge ce E ((xs.set (v * 4) (.int .u32 (E : Int))).set (v * 4 + 1) (.int .u32 (cc : Int))) ys ∧ NodeOk ((xs.set (v * 4) (.int .u32 (E : Int))).set (v * 4 + 1) (.int .u32 (cc : Int))) (E + 1) (E + cc) ∧ Below base w w3 from by
              rw [hw3]
              exact ⟨H2.out.1.set _ _, HT.out.2.1.stored HT.out.1.2.1.1 hvv (by omega), H2.out.2.trans (H2.out.1.below _ _ hs2)⟩)
            clear hw3 p0 p1 pf H2 hs2
            have HE := hide HT.out.2.2.1
            clear HT hsz ff
            try simp only [show decide ((v : Int) < (E : Int) + 1) = true by simp; omega]
            go_loopw [9] (fun u9 wr => ∃ i : Nat, i ≤ cc ∧ u9 = .int .i64 (i : Int) ∧ Hid (∃ gn cn ge ce xs ys, TI wr tb base gn cn (E + 1 + i) ge ce (E + i) xs ys ∧ NodeOk xs (E + 1 + i) (E + cc) ∧ EdgeOk ys (E + i) ∧ Below base w wr)) (fun u _ => cc - (intOf u).toNat)
            case atStart => exact ⟨0, Nat.zero_le _, rfl, gn, cn, ge, ce, _, _, H3.out.1, H3.out.2.1, HE.out, H3.out.2.2⟩
            case round =>
              obtain ⟨i, hi, rfl, HI⟩ := hrel
              by_cases hic : i < cc
              · obtain ⟨gn', cn', ge', ce', xs', ys', hT, hNo, hEo, hB⟩ := HI.out
                obtain ⟨M, hM⟩ : ∃ M, E + i = M := ⟨_, rfl⟩
                obtain ⟨K, hK⟩ : ∃ K, E + 1 + i = K := ⟨_, rfl⟩
                rw [hM] at hT hEo
                rw [hK] at hT hNo
                have hM62 : M ≤ 62 := by omega
                have hK63 : K ≤ 63 := by omega
                have HM := hide (And.intro hM hK)
                clear hM hK
                have hsr := Nat.le_trans hb hB.size
                have r1 : wr.cell? ⟨tb, 1, none⟩ = some (.slice (some ⟨ge', 0, none⟩) M ce') := by rw [cell_of_row wr _ _ _ 63 (0, 0) hT.1]; rfl
                have htl := lt_of_block hT.1
                have hown := hT.2.2.1
                have HT := hide (And.intro hT (And.intro hNo (And.intro hEo hB)))
                clear HI hT hNo hEo hB
                obtain ⟨j1, hi1, hz10, hz11, hz12⟩ := info_parts info21
                obtain ⟨j2, hi2, hz20, hz21, hz22⟩ := info_parts info88
                by_cases hch : M < n1
                · obtain ⟨g', off', x', rfl, hg', hc', hx'⟩ := (HP.out.2.kept HT.out.2.2.2) M hch
                  go_wp2_with (first | (refine isAt 87 ?_; refine wpList_table (.tmp 86) (x' % 16) _ rfl (by omega) (by omega) ?_; intro cch hcm hclt; have HC := hide hcm; clear hcm) | (at_builtin; refine isAt 96 ?_; refine wpList_append_shape _ rfl (.tmp 92) (.tmp 95) 38 rfl base 21 j1 _ 1 4 Ybad.underlying38 hi1 hz10 hz11 hz12 rfl (by decide) (.slice (some ⟨ge', 0, none⟩) M ce') M ys' rfl (hown.alloc _) ⟨wr.heap.size, 0, none⟩ 1 1 [.int .i32 (cch : Int)] rfl rfl (new_cells wr [.int .i32 (cch : Int)] 21) (one_i32 _) (by unfold maxLen; omega) (by omega) (by simp; omega) (by decide) ?_; intro g7 c7 w7 hown7 hgrow7; have S7 := hide (edge_step HT.out.1 hsr hown7 hgrow7); have s1 : w7.cell? ⟨tb, 1, none⟩ = some (.slice (some ⟨ge', 0, none⟩) M ce') := (by rw [cell_of_row w7 _ _ _ 63 (0, 0) S7.out.1]; rfl); have s0 : w7.cell? ⟨tb, 0, none⟩ = some (.slice (some ⟨gn', 0, none⟩) K cn') := (by rw [cell_of_row w7 _ _ _ 63 (0, 0) S7.out.1]; rfl); have sf := frozen_of_row w7 tb 1 _ 63 S7.out.1; have hs8 := Nat.le_trans hsr S7.out.2.2.size; have htl7 := lt_of_block S7.out.1; clear hown7 hgrow7) | (at_builtin; refine isAt 108 ?_; refine wpList_append_shape _ rfl (.tmp 103) (.tmp 107) 53 rfl base 88 j2 _ 4 16 Ybad.underlying53 hi2 hz20 hz21 hz22 rfl (by decide) (.slice (some ⟨gn', 0, none⟩) K cn') K xs' rfl (S7.out.2.1.2.1.alloc _) ⟨w7.heap.size, 0, none⟩ 1 1 [.int .u32 0, .int .u32 0, .int .u32 (v : Int), .int .u32 0] rfl rfl (by simpa using new_cells (w7.setCell ⟨tb, 1, none⟩ (.slice (some ⟨g7, 0, none⟩) (M + 1) c7)) [.int .u32 0, .int .u32 0, .int .u32 (v : Int), .int .u32 0] 88) (one_u32 _ _ _ _) (by unfold maxLen; omega) (by omega) (by simp; simp at hs8; omega) (by decide) ?_; intro g9 c9 w9 hown9 hgrow9; have S9 := hide (node_step S7.out.2.1 hs8 hown9 hgrow9); have u0 : w9.cell? ⟨tb, 0, none⟩ = some (.slice (some ⟨gn', 0, none⟩) K cn') := (by rw [cell_of_row w9 _ _ _ 63 (0, 0) S9.out.1]; rfl); have uf := frozen_of_row w9 tb 0 _ 63 S9.out.1; clear hown9 hgrow9))
                  clear hi1 hz10 hz11 hz12 hi2 hz20 hz21 hz22
                  go_roundw
                  case rel =>
                    have e1 : E + 1 + (i + 1) = K + 1 := by have := HM.out.2; omega
                    have e2 : E + (i + 1) = M + 1 := by have := HM.out.1; omega
                    refine ⟨i + 1, hic, by go_num, g9, c9, g7, c7, xs' ++ [.int .u32 0, .int .u32 0, .int .u32 (v : Int), .int .u32 0], ys' ++ [.int .i32 (cch : Int)], ?_, ?_, ?_, HT.out.2.2.2.trans (S7.out.2.2.trans S9.out.2.2)⟩
                    · rw [e1, e2]; exact S9.out.2.1
                    · rw [e1]; exact HT.out.2.1.add HT.out.1.2.1.1
                    · rw [e2]; exact HT.out.2.2.1.add (by simpa using HT.out.1.2.2.1.1) HC.out
                  case measure => simp [intOf]; omega
                · have HC := hide (show (97 : Nat) ∈ tab by decide)
                  go_wp2_with (first | (at_builtin; refine isAt 96 ?_; refine wpList_append_shape _ rfl (.tmp 92) (.tmp 95) 38 rfl base 21 j1 _ 1 4 Ybad.underlying38 hi1 hz10 hz11 hz12 rfl (by decide) (.slice (some ⟨ge', 0, none⟩) M ce') M ys' rfl (hown.alloc _) ⟨wr.heap.size, 0, none⟩ 1 1 [.int .i32 97] rfl rfl (new_cells wr [.int .i32 97] 21) (one_i32 _) (by unfold maxLen; omega) (by omega) (by simp; omega) (by decide) ?_; intro g7 c7 w7 hown7 hgrow7; have S7 := hide (edge_step HT.out.1 hsr hown7 hgrow7); have s1 : w7.cell? ⟨tb, 1, none⟩ = some (.slice (some ⟨ge', 0, none⟩) M ce') := (by rw [cell_of_row w7 _ _ _ 63 (0, 0) S7.out.1]; rfl); have s0 : w7.cell? ⟨tb, 0, none⟩ = some (.slice (some ⟨gn', 0, none⟩) K cn') := (by rw [cell_of_row w7 _ _ _ 63 (0, 0) S7.out.1]; rfl); have sf := frozen_of_row w7 tb 1 _ 63 S7.out.1; have hs8 := Nat.le_trans hsr S7.out.2.2.size; have htl7 := lt_of_block S7.out.1; clear hown7 hgrow7) | (at_builtin; refine isAt 108 ?_; refine wpList_append_shape _ rfl (.tmp 103) (.tmp 107) 53 rfl base 88 j2 _ 4 16 Ybad.underlying53 hi2 hz20 hz21 hz22 rfl (by decide) (.slice (some ⟨gn', 0, none⟩) K cn') K xs' rfl (S7.out.2.1.2.1.alloc _) ⟨w7.heap.size, 0, none⟩ 1 1 [.int .u32 0, .int .u32 0, .int .u32 (v : Int), .int .u32 0] rfl rfl (by simpa using new_cells (w7.setCell ⟨tb, 1, none⟩ (.slice (some ⟨g7, 0, none⟩) (M + 1) c7)) [.int .u32 0, .int .u32 0, .int .u32 (v : Int), .int .u32 0] 88) (one_u32 _ _ _ _) (by unfold maxLen; omega) (by omega) (by simp; simp at hs8; omega) (by decide) ?_; intro g9 c9 w9 hown9 hgrow9; have S9 := hide (node_step S7.out.2.1 hs8 hown9 hgrow9); have u0 : w9.cell? ⟨tb, 0, none⟩ = some (.slice (some ⟨gn', 0, none⟩) K cn') := (by rw [cell_of_row w9 _ _ _ 63 (0, 0) S9.out.1]; rfl); have uf := frozen_of_row w9 tb 0 _ 63 S9.out.1; clear hown9 hgrow9))
                  clear hi1 hz10 hz11 hz12 hi2 hz20 hz21 hz22
                  go_roundw
                  case rel =>
                    have e1 : E + 1 + (i + 1) = K + 1 := by have := HM.out.2; omega
                    have e2 : E + (i + 1) = M + 1 := by have := HM.out.1; omega
                    refine ⟨i + 1, hic, by go_num, g9, c9, g7, c7, xs' ++ [.int .u32 0, .int .u32 0, .int .u32 (v : Int), .int .u32 0], ys' ++ [.int .i32 97], ?_, ?_, ?_, HT.out.2.2.2.trans (S7.out.2.2.trans S9.out.2.2)⟩
                    · rw [e1, e2]; exact S9.out.2.1
                    · rw [e1]; exact HT.out.2.1.add HT.out.1.2.1.1
                    · rw [e2]; exact HT.out.2.2.1.add (by simpa using HT.out.1.2.2.1.1) HC.out
                  case measure => simp [intOf]; omega
              · obtain rfl : i = cc := by omega
                go_wp2_with fail
                obtain ⟨gn', cn', ge', ce', xs', ys', hT, hNo, hEo, hB⟩ := HI.out
                go_roundw
                case rel => exact ⟨v + 1, by go_num, by omega, gn', cn', _, ge', ce', _, xs', ys', by omega, hT, hNo, hEo, by omega, by omega, hB⟩
                case measure => simp [intOf]; omega
          · go_wp2_with fail
            obtain ⟨cc, hcc⟩ : ∃ cc : Nat, (x : Int) % 4 = (cc : Int) := ⟨x % 4, by omega⟩
            simp only [hcc]
            have hc3 : cc ≤ 3 := by omega
            have hcE : cc + E ≤ 63 := by omega
            clear hcc
            have df := HT.out.1.2.1.frozenAt (v * 4)
            go_region
            obtain ⟨w2, hw2⟩ : ∃ w2 : World, w2 = (wr.setCell ⟨gn, v * 4, none⟩ (.int .u32 (E : Int))).drew := ⟨_, rfl⟩
            rw [← hw2]
            have hT2 : TI w2 tb base gn cn (E + 1) ge ce E (xs.set (v * 4) (.int .u32 (E : Int))) ys := by rw [hw2]; exact (HT.out.1.set _ _).drew
            have hB2 : Below base w w2 := by rw [hw2]; exact drew1 (HT.out.2.2.2.1.trans (HT.out.1.below _ _ hsz))
            have hs2 := Nat.le_trans hb hB2.size
            have p0 : w2.cell? ⟨tb, 0, none⟩ = some (.slice (some ⟨gn, 0, none⟩) (E + 1) cn) := by rw [cell_of_row w2 _ _ _ 63 (0, 0) hT2.1]; rfl
            have p1 : w2.cell? ⟨gn, v * 4 + 1, none⟩ = some (.int .u32 (d0 : Nat)) := by rw [hT2.2.1.cellAt _ (by omega), List.getElem?_set_ne (by omega)]; exact HT.out.2.2.2.2
            have pf : w2.frozen? ⟨gn, v * 4 + 1, none⟩ = false := hT2.2.1.frozenAt _
            have H2 := hide (And.intro hT2 hB2)
            clear hw2 hT2 hB2 q0 q1 z0 df
            go_wp2_with fail
            obtain ⟨w3, hw3⟩ : ∃ w3 : World, w3 = w2.setCell ⟨gn, v * 4 + 1, none⟩ (.int .u32 (cc : Int)) := ⟨_, rfl⟩
            rw [← hw3]
            have H3 := hide (show TI w3 tb base gn cn (E + 1) ge ce E ((xs.set (v * 4) (.int .u32 (E : Int))).set (v * 4 + 1) (.int .u32 (cc : Int))) ys ∧ NodeOk ((xs.set (v * 4) (.int .u32 (E : Int))).set (v * 4 + 1) (.int .u32 (cc : Int))) (E + 1) (E + cc) ∧ Below base w w3 from by
              rw [hw3]
              exact ⟨H2.out.1.set _ _, HT.out.2.1.stored HT.out.1.2.1.1 hvv (by omega), H2.out.2.trans (H2.out.1.below _ _ hs2)⟩)
            clear hw3 p0 p1 pf H2 hs2
            have HE := hide HT.out.2.2.1
            clear HT hsz ff
            try simp only [show decide ((v : Int) < (E : Int) + 1) = true by simp; omega]
            try simp only [show decide (64 - ((E : Int) + 1) < (cc : Int)) = false by simp; omega]
            go_loopw [9] (fun u9 wr => ∃ i : Nat, i ≤ cc ∧ u9 = .int .i64 (i : Int) ∧ Hid (∃ gn cn ge ce xs ys, TI wr tb base gn cn (E + 1 + i) ge ce (E + i) xs ys ∧ NodeOk xs (E + 1 + i) (E + cc) ∧ EdgeOk ys (E + i) ∧ Below base w wr)) (fun u _ => cc - (intOf u).toNat)
            case atStart => exact ⟨0, Nat.zero_le _, rfl, gn, cn, ge, ce, _, _, H3.out.1, H3.out.2.1, HE.out, H3.out.2.2⟩
            case round =>
              obtain ⟨i, hi, rfl, HI⟩ := hrel
              by_cases hic : i < cc
              · obtain ⟨gn', cn', ge', ce', xs', ys', hT, hNo, hEo, hB⟩ := HI.out
                obtain ⟨M, hM⟩ : ∃ M, E + i = M := ⟨_, rfl⟩
                obtain ⟨K, hK⟩ : ∃ K, E + 1 + i = K := ⟨_, rfl⟩
                rw [hM] at hT hEo
                rw [hK] at hT hNo
                have hM62 : M ≤ 62 := by omega
                have hK63 : K ≤ 63 := by omega
                have HM := hide (And.intro hM hK)
                clear hM hK
                have hsr := Nat.le_trans hb hB.size
                have r1 : wr.cell? ⟨tb, 1, none⟩ = some (.slice (some ⟨ge', 0, none⟩) M ce') := by rw [cell_of_row wr _ _ _ 63 (0, 0) hT.1]; rfl
                have htl := lt_of_block hT.1
                have hown := hT.2.2.1
                have HT := hide (And.intro hT (And.intro hNo (And.intro hEo hB)))
                clear HI hT hNo hEo hB
                obtain ⟨j1, hi1, hz10, hz11, hz12⟩ := info_parts info21
                obtain ⟨j2, hi2, hz20, hz21, hz22⟩ := info_parts info88
                by_cases hch : M < n1
                · obtain ⟨g', off', x', rfl, hg', hc', hx'⟩ := (HP.out.2.kept HT.out.2.2.2) M hch
                  go_wp2_with (first | (refine isAt 87 ?_; refine wpList_table (.tmp 86) (x' % 16) _ rfl (by omega) (by omega) ?_; intro cch hcm hclt; have HC := hide hcm; clear hcm) | (at_builtin; refine isAt 96 ?_; refine wpList_append_shape _ rfl (.tmp 92) (.tmp 95) 38 rfl base 21 j1 _ 1 4 Ybad.underlying38 hi1 hz10 hz11 hz12 rfl (by decide) (.slice (some ⟨ge', 0, none⟩) M ce') M ys' rfl (hown.alloc _) ⟨wr.heap.size, 0, none⟩ 1 1 [.int .i32 (cch : Int)] rfl rfl (new_cells wr [.int .i32 (cch : Int)] 21) (one_i32 _) (by unfold maxLen; omega) (by omega) (by simp; omega) (by decide) ?_; intro g7 c7 w7 hown7 hgrow7; have S7 := hide (edge_step HT.out.1 hsr hown7 hgrow7); have s1 : w7.cell? ⟨tb, 1, none⟩ = some (.slice (some ⟨ge', 0, none⟩) M ce') := (by rw [cell_of_row w7 _ _ _ 63 (0, 0) S7.out.1]; rfl); have s0 : w7.cell? ⟨tb, 0, none⟩ = some (.slice (some ⟨gn', 0, none⟩) K cn') := (by rw [cell_of_row w7 _ _ _ 63 (0, 0) S7.out.1]; rfl); have sf := frozen_of_row w7 tb 1 _ 63 S7.out.1; have hs8 := Nat.le_trans hsr S7.out.2.2.size; have htl7 := lt_of_block S7.out.1; clear hown7 hgrow7) | (at_builtin; refine isAt 108 ?_; refine wpList_append_shape _ rfl (.tmp 103) (.tmp 107) 53 rfl base 88 j2 _ 4 16 Ybad.underlying53 hi2 hz20 hz21 hz22 rfl (by decide) (.slice (some ⟨gn', 0, none⟩) K cn') K xs' rfl (S7.out.2.1.2.1.alloc _) ⟨w7.heap.size, 0, none⟩ 1 1 [.int .u32 0, .int .u32 0, .int .u32 (v : Int), .int .u32 0] rfl rfl (by simpa using new_cells (w7.setCell ⟨tb, 1, none⟩ (.slice (some ⟨g7, 0, none⟩) (M + 1) c7)) [.int .u32 0, .int .u32 0, .int .u32 (v : Int), .int .u32 0] 88) (one_u32 _ _ _ _) (by unfold maxLen; omega) (by omega) (by simp; simp at hs8; omega) (by decide) ?_; intro g9 c9 w9 hown9 hgrow9; have S9 := hide (node_step S7.out.2.1 hs8 hown9 hgrow9); have u0 : w9.cell? ⟨tb, 0, none⟩ = some (.slice (some ⟨gn', 0, none⟩) K cn') := (by rw [cell_of_row w9 _ _ _ 63 (0, 0) S9.out.1]; rfl); have uf := frozen_of_row w9 tb 0 _ 63 S9.out.1; clear hown9 hgrow9))
                  clear hi1 hz10 hz11 hz12 hi2 hz20 hz21 hz22
                  go_roundw
                  case rel =>
                    have e1 : E + 1 + (i + 1) = K + 1 := by have := HM.out.2; omega
                    have e2 : E + (i + 1) = M + 1 := by have := HM.out.1; omega
                    refine ⟨i + 1, hic, by go_num, g9, c9, g7, c7, xs' ++ [.int .u32 0, .int .u32 0, .int .u32 (v : Int), .int .u32 0], ys' ++ [.int .i32 (cch : Int)], ?_, ?_, ?_, HT.out.2.2.2.trans (S7.out.2.2.trans S9.out.2.2)⟩
                    · rw [e1, e2]; exact S9.out.2.1
                    · rw [e1]; exact HT.out.2.1.add HT.out.1.2.1.1
                    · rw [e2]; exact HT.out.2.2.1.add (by simpa using HT.out.1.2.2.1.1) HC.out
                  case measure => simp [intOf]; omega
                · have HC := hide (show (97 : Nat) ∈ tab by decide)
                  go_wp2_with (first | (at_builtin; refine isAt 96 ?_; refine wpList_append_shape _ rfl (.tmp 92) (.tmp 95) 38 rfl base 21 j1 _ 1 4 Ybad.underlying38 hi1 hz10 hz11 hz12 rfl (by decide) (.slice (some ⟨ge', 0, none⟩) M ce') M ys' rfl (hown.alloc _) ⟨wr.heap.size, 0, none⟩ 1 1 [.int .i32 97] rfl rfl (new_cells wr [.int .i32 97] 21) (one_i32 _) (by unfold maxLen; omega) (by omega) (by simp; omega) (by decide) ?_; intro g7 c7 w7 hown7 hgrow7; have S7 := hide (edge_step HT.out.1 hsr hown7 hgrow7); have s1 : w7.cell? ⟨tb, 1, none⟩ = some (.slice (some ⟨ge', 0, none⟩) M ce') := (by rw [cell_of_row w7 _ _ _ 63 (0, 0) S7.out.1]; rfl); have s0 : w7.cell? ⟨tb, 0, none⟩ = some (.slice (some ⟨gn', 0, none⟩) K cn') := (by rw [cell_of_row w7 _ _ _ 63 (0, 0) S7.out.1]; rfl); have sf := frozen_of_row w7 tb 1 _ 63 S7.out.1; have hs8 := Nat.le_trans hsr S7.out.2.2.size; have htl7 := lt_of_block S7.out.1; clear hown7 hgrow7) | (at_builtin; refine isAt 108 ?_; refine wpList_append_shape _ rfl (.tmp 103) (.tmp 107) 53 rfl base 88 j2 _ 4 16 Ybad.underlying53 hi2 hz20 hz21 hz22 rfl (by decide) (.slice (some ⟨gn', 0, none⟩) K cn') K xs' rfl (S7.out.2.1.2.1.alloc _) ⟨w7.heap.size, 0, none⟩ 1 1 [.int .u32 0, .int .u32 0, .int .u32 (v : Int), .int .u32 0] rfl rfl (by simpa using new_cells (w7.setCell ⟨tb, 1, none⟩ (.slice (some ⟨g7, 0, none⟩) (M + 1) c7)) [.int .u32 0, .int .u32 0, .int .u32 (v : Int), .int .u32 0] 88) (one_u32 _ _ _ _) (by unfold maxLen; omega) (by omega) (by simp; simp at hs8; omega) (by decide) ?_; intro g9 c9 w9 hown9 hgrow9; have S9 := hide (node_step S7.out.2.1 hs8 hown9 hgrow9); have u0 : w9.cell? ⟨tb, 0, none⟩ = some (.slice (some ⟨gn', 0, none⟩) K cn') := (by rw [cell_of_row w9 _ _ _ 63 (0, 0) S9.out.1]; rfl); have uf := frozen_of_row w9 tb 0 _ 63 S9.out.1; clear hown9 hgrow9))
                  clear hi1 hz10 hz11 hz12 hi2 hz20 hz21 hz22
                  go_roundw
                  case rel =>
                    have e1 : E + 1 + (i + 1) = K + 1 := by have := HM.out.2; omega
                    have e2 : E + (i + 1) = M + 1 := by have := HM.out.1; omega
                    refine ⟨i + 1, hic, by go_num, g9, c9, g7, c7, xs' ++ [.int .u32 0, .int .u32 0, .int .u32 (v : Int), .int .u32 0], ys' ++ [.int .i32 97], ?_, ?_, ?_, HT.out.2.2.2.trans (S7.out.2.2.trans S9.out.2.2)⟩
                    · rw [e1, e2]; exact S9.out.2.1
                    · rw [e1]; exact HT.out.2.1.add HT.out.1.2.1.1
                    · rw [e2]; exact HT.out.2.2.1.add (by simpa using HT.out.1.2.2.1.1) HC.out
                  case measure => simp [intOf]; omega
              · obtain rfl : i = cc := by omega
                go_wp2_with fail
                obtain ⟨gn', cn', ge', ce', xs', ys', hT, hNo, hEo, hB⟩ := HI.out
                go_roundw
                case rel => exact ⟨v + 1, by go_num, by omega, gn', cn', _, ge', ce', _, xs', ys', by omega, hT, hNo, hEo, by omega, by omega, hB⟩
                case measure => simp [intOf]; omega
        · go_wp2_with fail
          obtain ⟨cc, hcc⟩ : ∃ cc : Nat, cc = 0 := ⟨0, rfl⟩
          have hc3 : cc ≤ 3 := by omega
          have hcE : cc + E ≤ 63 := by omega
          have df := HT.out.1.2.1.frozenAt (v * 4)
          go_region
          obtain ⟨w2, hw2⟩ : ∃ w2 : World, w2 = (wr.setCell ⟨gn, v * 4, none⟩ (.int .u32 (E : Int))).drew := ⟨_, rfl⟩
          rw [← hw2]
          have hT2 : TI w2 tb base gn cn (E + 1) ge ce E (xs.set (v * 4) (.int .u32 (E : Int))) ys := by rw [hw2]; exact (HT.out.1.set _ _).drew
          have hB2 : Below base w w2 := by rw [hw2]; exact drew1 (HT.out.2.2.2.1.trans (HT.out.1.below _ _ hsz))
          have hs2 := Nat.le_trans hb hB2.size
          have p0 : w2.cell? ⟨tb, 0, none⟩ = some (.slice (some ⟨gn, 0, none⟩) (E + 1) cn) := by rw [cell_of_row w2 _ _ _ 63 (0, 0) hT2.1]; rfl
          have p1 : w2.cell? ⟨gn, v * 4 + 1, none⟩ = some (.int .u32 (d0 : Nat)) := by rw [hT2.2.1.cellAt _ (by omega), List.getElem?_set_ne (by omega)]; exact HT.out.2.2.2.2
          have pf : w2.frozen? ⟨gn, v * 4 + 1, none⟩ = false := hT2.2.1.frozenAt _
          have H2 := hide (And.intro hT2 hB2)
          clear hw2 hT2 hB2 q0 q1 z0 df
          go_wp2_with fail
          obtain ⟨w3, hw3⟩ : ∃ w3 : World, w3 = w2.setCell ⟨gn, v * 4 + 1, none⟩ (.int .u32 0) := ⟨_, rfl⟩
          rw [← hw3]
          have H3 := hide (show TI w3 tb base gn cn (E + 1) ge ce E ((xs.set (v * 4) (.int .u32 (E : Int))).set (v * 4 + 1) (.int .u32 (cc : Int))) ys ∧ NodeOk ((xs.set (v * 4) (.int .u32 (E : Int))).set (v * 4 + 1) (.int .u32 (cc : Int))) (E + 1) (E + cc) ∧ Below base w w3 from by
            rw [hw3]
            subst hcc
            exact ⟨H2.out.1.set _ _, HT.out.2.1.stored HT.out.1.2.1.1 hvv (by omega), H2.out.2.trans (H2.out.1.below _ _ hs2)⟩)
          clear hw3 p0 p1 pf H2 hs2
          have HE := hide HT.out.2.2.1
          clear HT hsz ff
          try simp only [show decide ((v : Int) < (E : Int) + 1) = true by simp; omega]
          go_loopw [9] (fun u9 wr => ∃ i : Nat, i ≤ cc ∧ u9 = .int .i64 (i : Int) ∧ Hid (∃ gn cn ge ce xs ys, TI wr tb base gn cn (E + 1 + i) ge ce (E + i) xs ys ∧ NodeOk xs (E + 1 + i) (E + cc) ∧ EdgeOk ys (E + i) ∧ Below base w wr)) (fun u _ => cc - (intOf u).toNat)
          case atStart => exact ⟨0, Nat.zero_le _, rfl, gn, cn, ge, ce, _, _, H3.out.1, H3.out.2.1, HE.out, H3.out.2.2⟩
          case round =>
            obtain ⟨i, hi, rfl, HI⟩ := hrel
            by_cases hic : i < cc
            · exfalso; omega
            · obtain rfl : i = 0 := by omega
              subst hcc
              go_wp2_with fail
              obtain ⟨gn', cn', ge', ce', xs', ys', hT, hNo, hEo, hB⟩ := HI.out
              go_roundw
              case rel => exact ⟨v + 1, by go_num, by omega, gn', cn', _, ge', ce', _, xs', ys', by omega, hT, hNo, hEo, by omega, by omega, hB⟩
              case measure => simp [intOf]; omega
      · obtain rfl : v = E + 1 := by omega
        go_wp2_with fail
        go_ret
        exact ⟨tb, gn, cn, E + 1, ge, ce, E, xs, ys, rfl, hT, hNo, hEo, rfl, hN64, hB⟩
end Go.Proofs.YbulktjyDoor
