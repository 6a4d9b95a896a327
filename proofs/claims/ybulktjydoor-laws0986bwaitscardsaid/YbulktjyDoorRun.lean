import Derived.Test.YbulktjyDoorSet
import Derived.Laws.IdiomCopy
namespace Go.Proofs.YbulktjyDoor
open Go.RowKit

/-! ### small laws on worlds -/
theorem grownBy_setCell (w : World) (a : Addr) (u : Value) : w.grownBy (w.setCell a u) (some a.block) :=
  ⟨rfl, rfl, rfl, by simp [World.setCell], fun k _ hk => Below.heap_setCell _ _ _ _ (fun e => hk (by rw [e]))⟩
theorem grownBy_drewN (w : World) (n : Nat) (row : Option Nat) : w.grownBy (w.drewN n) row := ⟨rfl, rfl, rfl, Nat.le_refl _, fun _ _ _ => rfl⟩

theorem own_block {w : World} {base : Nat} {e : TypeId} {size : Nat} {v : Value} {n : Nat} {xs : List Value} (h : w.ownsRow base e size v n xs) {g : Nat} (hg : v.ownBlock = some g) : base ≤ g ∧ ∃ cur, w.heap[g]? = some (.cells cur e (0, 0)) := by
  rcases h.2 with ⟨rfl, _⟩ | ⟨g', cap, cur, rfl, hb, hh, _⟩
  · simp [Value.ownBlock] at hg
  · simp [Value.ownBlock] at hg
    subst hg
    exact ⟨hb, cur, hh⟩
theorem own_form {w : World} {base : Nat} {e : TypeId} {size : Nat} {v : Value} {n : Nat} {xs : List Value} (h : w.ownsRow base e size v n xs) (hn : 0 < n) : ∃ g cap, v = .slice (some ⟨g, 0, none⟩) n cap := by
  rcases h.2 with ⟨_, rfl⟩ | ⟨g, cap, _, rfl, _⟩
  · omega
  · exact ⟨g, cap, rfl⟩
theorem own_shape {w : World} {base : Nat} {e : TypeId} {size : Nat} {v : Value} {n : Nat} {xs : List Value} (h : w.ownsRow base e size v n xs) : ∃ ao cap, v = .slice ao n cap := by
  rcases h.2 with ⟨rfl, rfl⟩ | ⟨g, cap, _, rfl, _⟩
  · exact ⟨none, 0, rfl⟩
  · exact ⟨_, cap, rfl⟩

/-- a row of one type stays while a block of another is written -/
theorem own_other {w w' : World} {base : Nat} {e : TypeId} {size : Nat} {v : Value} {n : Nat} {xs : List Value} {k : Nat} {cur : Array Value} {t : TypeId} {fr : Nat × Nat} (h : w.ownsRow base e size v n xs) (hg : w.grownBy w' (some k)) (hk : w.heap[k]? = some (.cells cur t fr)) (ht : t ≠ e) : w'.ownsRow base e size v n xs := by
  refine h.kept hg ?_
  cases hv : v.ownBlock with
  | none => exact .inl rfl
  | some g =>
    right
    intro e'
    simp at e'
    subst e'
    obtain ⟨_, cur', hh⟩ := own_block h hv
    rw [hk] at hh
    simp at hh
    exact ht hh.2.1
theorem own_none {w w' : World} {base : Nat} {e : TypeId} {size : Nat} {v : Value} {n : Nat} {xs : List Value} (h : w.ownsRow base e size v n xs) (hg : w.grownBy w' none) : w'.ownsRow base e size v n xs :=
  h.kept hg (by cases hv : v.ownBlock <;> simp)
/-- a block stays while a block of another type is written -/
theorem blk_other {w w' : World} {k j : Nat} {cur cs : Array Value} {t u : TypeId} {fr fs : Nat × Nat} (hg : w.grownBy w' (some k)) (hk : w.heap[k]? = some (.cells cur t fr)) (hj : w.heap[j]? = some (.cells cs u fs)) (ht : t ≠ u) : w'.heap[j]? = some (.cells cs u fs) := by
  rw [hg.block j (lt_of_block hj) ?_]
  · exact hj
  · intro e
    simp at e
    subst e
    rw [hk] at hj
    simp at hj
    exact ht hj.2.1
theorem blk_none {w w' : World} {j : Nat} {o : Obj} (hg : w.grownBy w' none) (hj : w.heap[j]? = some o) : w'.heap[j]? = some o := by
  rw [hg.block j (lt_of_block hj) (by simp)]; exact hj

/-- WHAT A STREAMING RUN LEAVES ALONE: what lies below base, and every block but the run set, its rows of waiters and of kinds. -/
structure StFrame (base : Nat) (w w' : World) : Prop where
  below : Below base w w'
  kept : ∀ (k : Nat) (cur : Array Value) (t : TypeId) (fr : Nat × Nat), w.heap[k]? = some (.cells cur t fr) → t ≠ 84 → t ≠ 69 → t ≠ 72 → w'.heap[k]? = some (.cells cur t fr)

theorem StFrame.refl (base : Nat) (w : World) : StFrame base w w := ⟨Below.refl _ _, fun _ _ _ _ h _ _ _ => h⟩
theorem StFrame.trans {base : Nat} {a b c : World} (h : StFrame base a b) (k : StFrame base b c) : StFrame base a c :=
  ⟨h.below.trans k.below, fun i cur t fr hi h1 h2 h3 => k.kept i cur t fr (h.kept i cur t fr hi h1 h2 h3) h1 h2 h3⟩
theorem StFrame.grown {base : Nat} {a w w' : World} {row : Option Nat} (h : StFrame base a w) (hg : w.grownBy w' row) (hs : base ≤ w.heap.size) (hr : ∀ k, row = some k → base ≤ k ∧ ∃ cur t fr, w.heap[k]? = some (.cells cur t fr) ∧ (t = 84 ∨ t = 69 ∨ t = 72)) : StFrame base a w' :=
  h.trans ⟨(Below.refl _ _).grown hg hs (fun k e => (hr k e).1), fun k cur t fr hk h1 h2 h3 => by
    rw [hg.block k (lt_of_block hk) ?_]
    · exact hk
    · intro e
      obtain ⟨_, cur', t', fr', hh, ht⟩ := hr k e.symm
      rw [hk] at hh
      simp at hh
      obtain ⟨_, rfl, _⟩ := hh
      rcases ht with rfl | rfl | rfl <;> simp_all⟩
theorem StFrame.drewN {base : Nat} {a w : World} (h : StFrame base a w) (n : Nat) : StFrame base a (w.drewN n) := h.trans ⟨⟨rfl, rfl, rfl, Nat.le_refl _, fun _ _ => rfl⟩, fun _ _ _ _ h _ _ _ => h⟩
theorem StFrame.alloc {base : Nat} {a w : World} (h : StFrame base a w) (hs : base ≤ w.heap.size) (o : Obj) : StFrame base a (w.alloc o) := h.grown (World.grownBy_alloc w o none) hs (by simp)

/-! ### the run set -/
/-- its cells: the anchors, whether it is streamed, exiting, waits, waiting, the stamp -/
def rsCells (an : Value) (sd : Bool) (ex wt wg : Value) (st : Int) : Array Value :=
  #[an, .bool false, .bool true, .slice none 0 0, .slice none 0 0, .int .u64 0, .bool false, .slice none 0 0, .slice none 0 0, .slice none 0 0, .slice none 0 0, .slice none 0 0, .bool sd, ex, wt, wg, .int .u32 st, .slice none 0 0, .int .u64 0, .int .u64 0, .int .i64 0, .pointer none]

/-- the entry of one kind: its stamp, its head -/
def EntAt (xs : List Value) (k : Nat) (st hd : Int) : Prop := ∃ (wd : Int) (rf : Bool), xs[k * 4]? = some (.int .u32 st) ∧ xs[k * 4 + 1]? = some (.int .i32 hd) ∧ xs[k * 4 + 2]? = some (.int .u32 wd) ∧ xs[k * 4 + 3]? = some (.bool rf)
/-- the entries of n kinds: one that nobody waits for bears another stamp; else this one, and its last waiter -/
def Ent (xs : List Value) (n : Nat) (ns : Int) (last : Nat → Int) : Prop := ∀ k, k < n → ∃ st hd, EntAt xs k st hd ∧ ((last k = -1 ∧ st ≠ ns) ∨ (0 ≤ last k ∧ st = ns ∧ hd = last k))
/-- .. but for kind j, whose entry has been laid for this run -/
def EntK (xs : List Value) (n : Nat) (ns : Int) (last : Nat → Int) (j : Nat) : Prop := EntAt xs j ns (last j) ∧ ∀ k, k < n → k ≠ j → ∃ st hd, EntAt xs k st hd ∧ ((last k = -1 ∧ st ≠ ns) ∨ (0 ≤ last k ∧ st = ns ∧ hd = last k))

theorem EntAt.other {xs : List Value} {k j i : Nat} {st hd : Int} {v : Value} (h : EntAt xs k st hd) (hi : i < 4) (hne : k ≠ j) : EntAt (xs.set (j * 4 + i) v) k st hd := by
  obtain ⟨wd, rf, h0, h1, h2, h3⟩ := h
  refine ⟨wd, rf, ?_, ?_, ?_, ?_⟩ <;> rw [List.getElem?_set_ne (by omega)] <;> assumption

theorem own_entry {w : World} {base gw n cw k : Nat} {xs : List Value} {st hd : Int} (h : w.ownsRow base 69 4 (.slice (some ⟨gw, 0, none⟩) n cw) n xs) (hk : k < n) (he : EntAt xs k st hd) :
    w.cell? ⟨gw, k * 4, none⟩ = some (.int .u32 st) ∧ w.cell? ⟨gw, k * 4 + 1, none⟩ = some (.int .i32 hd) ∧ (∃ wd, w.cell? ⟨gw, k * 4 + 2, none⟩ = some (.int .u32 wd)) ∧ ∃ rf, w.cell? ⟨gw, k * 4 + 3, none⟩ = some (.bool rf) := by
  obtain ⟨wd, rf, h0, h1, h2, h3⟩ := he
  refine ⟨?_, ?_, ⟨wd, ?_⟩, ⟨rf, ?_⟩⟩ <;> rw [h.cellAt _ (by omega)] <;> assumption

/-- the run set at block sb, its row of kinds -/
def RSet (w : World) (sb base : Nat) (an exv wv : Value) (sd : Bool) (st : Int) (gw n cw : Nat) (xs : List Value) : Prop :=
  w.heap[sb]? = some (.cells (rsCells an sd exv wv (.slice (some ⟨gw, 0, none⟩) n cw) st) 84 (0, 0)) ∧ w.ownsRow base 69 4 (.slice (some ⟨gw, 0, none⟩) n cw) n xs ∧ base ≤ sb

theorem rs_cell {w : World} {sb : Nat} {cs : Array Value} (h : w.heap[sb]? = some (.cells cs 84 (0, 0))) (j : Nat) {v : Value} (hv : cs[j]? = some v) : w.cell? ⟨sb, j, none⟩ = some v := by
  rw [cell_of_row w sb j cs 84 (0, 0) h]; exact hv

set_option maxHeartbeats 400000 in
theorem wf_same {w : World} {sb gw n cw k : Nat} {ns : Int} (h15 : w.cell? ⟨sb, 15, none⟩ = some (.slice (some ⟨gw, 0, none⟩) n cw)) (h16 : w.cell? ⟨sb, 16, none⟩ = some (.int .u32 ns)) (hk : k < n) (c0 : w.cell? ⟨gw, k * 4, none⟩ = some (.int .u32 ns)) :
    Calls Ybad.prog 16 #[.pointer (some ⟨sb, 0, none⟩), .int .i64 (k : Int)] w fun e w' => e = .returned (.pointer (some ⟨gw, k * 4, none⟩)) ∧ ∃ m, w' = w.drewN m := by
  have hne : (ns != ns) = false := by simp
  go_enter Ybad.func16, Ybad.ntmps16
  go_wp2_with fail
  go_quiet (fail)
  go_wp2_with fail
  go_ret
  exact ⟨rfl, _, rfl⟩

set_option maxHeartbeats 400000 in
theorem wf_new {w : World} {sb gw n cw k : Nat} {ns st : Int} (h15 : w.cell? ⟨sb, 15, none⟩ = some (.slice (some ⟨gw, 0, none⟩) n cw)) (h16 : w.cell? ⟨sb, 16, none⟩ = some (.int .u32 ns)) (hk : k < n) (c0 : w.cell? ⟨gw, k * 4, none⟩ = some (.int .u32 st)) (hst : st ≠ ns) {v1 v2 v3 : Value}
    (c1 : w.cell? ⟨gw, k * 4 + 1, none⟩ = some v1) (c2 : w.cell? ⟨gw, k * 4 + 2, none⟩ = some v2) (c3 : w.cell? ⟨gw, k * 4 + 3, none⟩ = some v3) (hf : ∀ j, w.frozen? ⟨gw, j, none⟩ = false) :
    Calls Ybad.prog 16 #[.pointer (some ⟨sb, 0, none⟩), .int .i64 (k : Int)] w fun e w' => e = .returned (.pointer (some ⟨gw, k * 4, none⟩)) ∧ ∃ m, w' = ((((w.setCell ⟨gw, k * 4, none⟩ (.int .u32 ns)).setCell ⟨gw, k * 4 + 1, none⟩ (.int .i32 (-1))).setCell ⟨gw, k * 4 + 2, none⟩ (.int .u32 0)).setCell ⟨gw, k * 4 + 3, none⟩ (.bool false)).drewN m := by
  have hne : (st != ns) = true := by simpa using hst
  clear hst
  go_enter Ybad.func16, Ybad.ntmps16
  go_wp2_with fail
  go_quiet (fail)
  go_wp2_with fail
  go_ret
  exact ⟨rfl, nq, rfl⟩

theorem grownBy_four (w : World) (g o0 o1 o2 o3 : Nat) (a b c d : Value) : w.grownBy ((((w.setCell ⟨g, o0, none⟩ a).setCell ⟨g, o1, none⟩ b).setCell ⟨g, o2, none⟩ c).setCell ⟨g, o3, none⟩ d) (some g) := by
  refine ⟨rfl, rfl, rfl, by simp [World.setCell], fun k _ hk => ?_⟩
  have hne : k ≠ g := fun e => hk (by rw [e])
  rw [Below.heap_setCell _ _ _ _ hne, Below.heap_setCell _ _ _ _ hne, Below.heap_setCell _ _ _ _ hne, Below.heap_setCell _ _ _ _ hne]

/-- what waitsFor leaves -/
theorem wf_any {w : World} {sb base gw n cw k : Nat} {an exv wv : Value} {sd : Bool} {ns : Int} {xs : List Value} {last : Nat → Int} (hR : RSet w sb base an exv wv sd ns gw n cw xs) (hE : Ent xs n ns last) (hk : k < n) :
    Calls Ybad.prog 16 #[.pointer (some ⟨sb, 0, none⟩), .int .i64 (k : Int)] w fun e w' => e = .returned (.pointer (some ⟨gw, k * 4, none⟩)) ∧ ∃ xs', RSet w' sb base an exv wv sd ns gw n cw xs' ∧ EntK xs' n ns last k ∧ StFrame base w w' ∧
      ∀ v m zs, w.ownsRow base 72 2 v m zs → w'.ownsRow base 72 2 v m zs := by
  obtain ⟨hb, hown, hbs⟩ := hR
  obtain ⟨st, hd, he, hcase⟩ := hE k hk
  obtain ⟨c0, c1, ⟨wd, c2⟩, rf, c3⟩ := own_entry hown hk he
  have h15 := rs_cell hb 15 (v := .slice (some ⟨gw, 0, none⟩) n cw) rfl
  have h16 := rs_cell hb 16 (v := .int .u32 ns) rfl
  obtain ⟨hgb, cur, hgh⟩ := own_block hown (g := gw) rfl
  rcases hcase with ⟨hl, hst⟩ | ⟨hl, rfl, rfl⟩
  · refine (wf_new h15 h16 hk c0 hst c1 c2 c3 (fun j => hown.frozenAt j)).mono ?_
    rintro e w' ⟨rfl, m, rfl⟩
    refine ⟨rfl, _, ⟨?_, ((((hown.stored _ _).1.stored _ _).1.stored _ _).1.stored _ _).1, hbs⟩, ⟨⟨0, false, ?_, ?_, ?_, ?_⟩, ?_⟩, ?_, ?_⟩
    · show ((((w.setCell ⟨gw, k * 4, none⟩ _).setCell ⟨gw, k * 4 + 1, none⟩ _).setCell ⟨gw, k * 4 + 2, none⟩ _).setCell ⟨gw, k * 4 + 3, none⟩ _).heap[sb]? = _
      have hne : sb ≠ gw := by intro e; subst e; rw [hb] at hgh; simp at hgh
      rw [Below.heap_setCell _ _ _ _ hne, Below.heap_setCell _ _ _ _ hne, Below.heap_setCell _ _ _ _ hne, Below.heap_setCell _ _ _ _ hne]
      exact hb
    · rw [List.getElem?_set_ne (by omega), List.getElem?_set_ne (by omega), List.getElem?_set_ne (by omega), List.getElem?_set_self (by have := hown.1; omega)]
    · rw [List.getElem?_set_ne (by omega), List.getElem?_set_ne (by omega), List.getElem?_set_self (by simp; have := hown.1; omega), hl]
    · rw [List.getElem?_set_ne (by omega), List.getElem?_set_self (by simp; have := hown.1; omega)]
    · rw [List.getElem?_set_self (by simp; have := hown.1; omega)]
    · intro k' hk' hne
      obtain ⟨st', hd', he', hc'⟩ := hE k' hk'
      have h1 := (((he'.other (j := k) (i := 0) (v := .int .u32 ns) (by omega) hne).other (j := k) (i := 1) (v := .int .i32 (-1)) (by omega) hne).other (j := k) (i := 2) (v := .int .u32 0) (by omega) hne).other (j := k) (i := 3) (v := .bool false) (by omega) hne
      exact ⟨st', hd', h1, hc'⟩
    · refine ((StFrame.refl base w).grown (grownBy_four w gw (k * 4) (k * 4 + 1) (k * 4 + 2) (k * 4 + 3) _ _ _ _) (by have := lt_of_block hb; omega) ?_).drewN m
      intro k' e
      simp at e
      subst e
      exact ⟨hgb, cur, 69, (0, 0), hgh, .inr (.inl rfl)⟩
    · intro v m' zs h
      exact own_none (own_other h (grownBy_four w gw (k * 4) (k * 4 + 1) (k * 4 + 2) (k * 4 + 3) _ _ _ _) hgh (by decide)) (grownBy_drewN _ m none)
  · refine (wf_same h15 h16 hk c0).mono ?_
    rintro e w' ⟨rfl, m, rfl⟩
    refine ⟨rfl, xs, ⟨hb, hown, hbs⟩, ⟨he, fun k' hk' _ => hE k' hk'⟩, (StFrame.refl _ _).drewN m, fun v m zs h => h⟩
end Go.Proofs.YbulktjyDoor
