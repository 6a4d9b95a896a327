import Derived.Test.YbulktloKeys
import Derived.Test.YbulktloFrame
namespace Go.Proofs.Ybulktlo
open Go.RowKit Go.WideMaps

/-- the cells of a list of keys and values: key i, and some number -/
def Pairs (ks : List ByteArray) (xs : List Value) : Prop := ∀ i, i < ks.length → xs[i * 2]? = some (.string (at' ks i)) ∧ ∃ x, xs[i * 2 + 1]? = some (.int .i64 x)

/-- THE STRUCT keyed AT BLOCK kb HOLDS THE KEYS ks, IN THIS ORDER; its index, where it has one, reads key i at i. -/
def KInv (w : World) (kb : Nat) (ks : List ByteArray) : Prop :=
  ∃ lv mv xs, w.heap[kb]? = some (.cells #[lv, mv] 33 (0, 0)) ∧ w.ownsRow (kb + 1) 29 2 lv ks.length xs ∧ Pairs ks xs ∧
    (mv = .map none ∨ ∃ bm, kb < bm ∧ mv = .map (some bm) ∧ w.ownsMap Yba.prog 9 (plainElem Yba.prog 3) bm ks.length (keyDTo ks ks.length))

theorem pairs_set {ks : List ByteArray} {xs : List Value} {j : Nat} {v : Int} (hl : xs.length = ks.length * 2) (hxs : Pairs ks xs) : Pairs ks (xs.set (j * 2 + 1) (.int .i64 v)) := by
  intro i hi
  rw [List.getElem?_set_ne (by omega)]
  refine ⟨(hxs i hi).1, ?_⟩
  by_cases e : j = i
  · subst e
    rw [List.getElem?_set_self (by omega)]
    exact ⟨v, rfl⟩
  · rw [List.getElem?_set_ne (by omega)]
    exact (hxs i hi).2

theorem list_cells {w : World} {base : Nat} {lv : Value} {ks : List ByteArray} {xs : List Value} (hown : w.ownsRow base 29 2 lv ks.length xs) (hxs : Pairs ks xs) :
    ∃ ao cap, lv = .slice ao ks.length cap ∧ ∀ i, i < ks.length → ∃ g, ao = some ⟨g, 0, none⟩ ∧ w.cell? ⟨g, i * 2, none⟩ = some (.string (at' ks i)) := by
  rcases hown.2 with ⟨rfl, h0⟩ | ⟨g, cap, cur, rfl, r⟩
  · exact ⟨none, 0, by rw [h0], fun i hi => by omega⟩
  · exact ⟨_, cap, rfl, fun i hi => ⟨g, rfl, by rw [hown.cellAt _ (by omega)]; exact (hxs i hi).1⟩⟩

theorem find_k_miss {w : World} {kb : Nat} {ks : List ByteArray} (h : KInv w kb ks) (hn : ks.length ≤ 1000000) {q : ByteArray} (hq : q.size ≤ maxLen) (ha : Absent ks ks.length q) :
    Calls Yba.prog 11 #[.pointer (some ⟨kb, 0, none⟩), .string q] w fun e w' => e = .returned (.tuple #[.int .i64 0, .bool false]) ∧ w' = w := by
  obtain ⟨lv, mv, xs, hb, hown, hxs, hm⟩ := h
  rcases hm with rfl | ⟨bm, _, rfl, hmap⟩
  · obtain ⟨ao, cap, rfl, hc⟩ := list_cells hown hxs
    exact find_miss kb ks.length cap ao q (at' ks) w hn (two_cell0 hb) (two_cell1 hb) hc ha
  · refine (find_map kb bm ks.length q _ w hq (two_cell1 hb) hmap).mono ?_
    rintro e w' ⟨c, rfl, hat, rfl⟩
    have hd := keyD_miss ks q ks.length ha
    rw [hd.2] at hat
    simp at hat
    rw [hd.1, ← hat]
    exact ⟨rfl, rfl⟩

theorem find_k_hit {w : World} {kb : Nat} {ks : List ByteArray} (h : KInv w kb ks) (hn : ks.length ≤ 1000000) (hdis : Distinct ks) {q : ByteArray} (hq : q.size ≤ maxLen) {j : Nat} (hf : FirstAt ks j q) :
    Calls Yba.prog 11 #[.pointer (some ⟨kb, 0, none⟩), .string q] w fun e w' => e = .returned (.tuple #[.int .i64 j, .bool true]) ∧ w' = w := by
  obtain ⟨lv, mv, xs, hb, hown, hxs, hm⟩ := h
  rcases hm with rfl | ⟨bm, _, rfl, hmap⟩
  · obtain ⟨g, cap, rfl⟩ := own_form hown (by have := hf.1; omega)
    exact find_hit kb g ks.length cap j q (at' ks) w hn (two_cell0 hb) (two_cell1 hb) (fun i hi => by rw [hown.cellAt _ (by omega)]; exact (hxs i hi).1) hf.1 hf.2.2 hf.2.1
  · refine (find_map kb bm ks.length q _ w hq (two_cell1 hb) hmap).mono ?_
    rintro e w' ⟨c, rfl, hat, rfl⟩
    have hd := keyD_hit ks q j hf.2.1 ks.length hf.1 (fun i hi hne => hdis.other hf hi hne)
    rw [hd.2] at hat
    simp at hat
    rw [hd.1, ← hat]
    exact ⟨rfl, rfl⟩

/-! ### (*keyed[int]).put -/
theorem info29 : (Yba.prog.info? 29).map (fun i => (i.zero, i.size, i.bytes)) = some (some (.agg #[.string ByteArray.empty, .int .i64 0]), 2, 24) := by kernel_rfl

set_option maxHeartbeats 400000 in
theorem put_hit {w : World} {kb : Nat} {ks : List ByteArray} (h : KInv w kb ks) (hn : ks.length ≤ 1000000) (hdis : Distinct ks) {q : ByteArray} (hq : q.size ≤ maxLen) {j : Nat} (hf : FirstAt ks j q) (v : Int) :
    Calls Yba.prog 13 #[.pointer (some ⟨kb, 0, none⟩), .string q, .int .i64 v] w fun e w' => e = .returned (.tuple #[]) ∧ KInv w' kb ks ∧ Frame kb w w' := by
  have hfind := find_k_hit h hn hdis hq hf
  obtain ⟨lv, mv, xs, hb, hown, hxs, hm⟩ := h
  obtain ⟨g, cap, rfl⟩ := own_form hown (by have := hf.1; omega)
  have hj := hf.1
  have h0 := two_cell0 hb
  have hfr := hown.frozenAt (j * 2 + 1)
  obtain ⟨v1, hv1⟩ := own_cell hown (j := j * 2 + 1) (by omega)
  have HF := hide hfind
  clear hfind
  have hin : Hid (KInv (w.setCell ⟨g, j * 2 + 1, none⟩ (.int .i64 v)) kb ks ∧ Frame kb w (w.setCell ⟨g, j * 2 + 1, none⟩ (.int .i64 v))) := by
    obtain ⟨hg, cur, hh⟩ := own_block hown (g := g) rfl
    have hkg : kb ≠ g := by omega
    refine ⟨⟨_, mv, _, by rw [Below.heap_setCell _ _ _ _ hkg]; exact hb, (hown.stored _ _).1, pairs_set hown.1 hxs, ?_⟩, (Frame.refl _ _).grown (grownBy_setCell _ _ _) (Nat.le_of_lt (lt_of_block hb)) ?_⟩
    · rcases hm with hm | ⟨bm, hbm, rfl, hmap⟩
      · exact .inl hm
      · refine .inr ⟨bm, hbm, rfl, hmap.kept (grownBy_setCell _ _ _) ?_⟩
        obtain ⟨es, clock, hmb, _⟩ := hmap
        intro e
        simp at e
        rw [e, hh] at hmb
        simp at hmb
    · intro k e
      simp at e
      subst e
      exact ⟨by omega, fun cur' fr => by rw [hh]; simp⟩
  clear hown hxs hm hb hdis
  go_enter Yba.func13, Yba.ntmps13
  go_wp2_with (go_at_call 11; refine HF.out.mono ?_; rintro e w' ⟨rfl, rfl⟩)
  first | go_end0 | refine bodyPost_ret (results_none rfl _ _ _) rfl ?_
  exact ⟨rfl, hin.out⟩

/-- the one block that the translation lays for what is appended -/
def newKV (q : ByteArray) (v : Int) : Obj := .cells #[.string q, .int .i64 v] 29

theorem newKV_cells (w : World) (q : ByteArray) (v : Int) : ∀ j u, [Value.string q, .int .i64 v][j]? = some u → (w.alloc (newKV q v)).cell? ((⟨w.heap.size, 0, none⟩ : Addr).add j) = some u := by
  intro j u hj
  have hh : (w.alloc (newKV q v)).heap[w.heap.size]? = some (.cells #[.string q, .int .i64 v] 29 (0, 0)) := (MapKept.heap_alloc w _).1
  match j, hj with
  | 0, hj => simp at hj; subst hj; exact two_cell0 hh
  | 1, hj => simp at hj; subst hj; exact two_cell1 hh

theorem keys_snoc {ks : List ByteArray} {xs : List Value} {q : ByteArray} {v : Int} (hl : xs.length = ks.length * 2) (hxs : Pairs ks xs) :
    Pairs (ks ++ [q]) (xs ++ [.string q, .int .i64 v]) := by
  intro i hi
  simp at hi
  by_cases e : i = ks.length
  · subst e
    rw [at'_last, List.getElem?_append_right (by omega), List.getElem?_append_right (by omega), hl]
    simp
  · rw [at'_append _ _ _ (by omega), List.getElem?_append_left (by omega), List.getElem?_append_left (by omega)]
    exact hxs i (by omega)

theorem append_step {w w1 : World} {kb g cap n : Nat} {lv mv : Value} {xs news : List Value} {q : ByteArray} {v : Int} (hb : w.heap[kb]? = some (.cells #[lv, mv] 33 (0, 0))) (hown : w.ownsRow (kb + 1) 29 2 lv n xs)
    (hown1 : w1.ownsRow (kb + 1) 29 2 (.slice (some ⟨g, 0, none⟩) (n + 1) cap) (n + 1) news) (hgrow : (w.alloc (newKV q v)).grownBy w1 lv.ownBlock) :
    w1.heap[kb]? = some (.cells #[lv, mv] 33 (0, 0)) ∧
    (w1.setCell ⟨kb, 0, none⟩ (.slice (some ⟨g, 0, none⟩) (n + 1) cap)).heap[kb]? = some (.cells #[.slice (some ⟨g, 0, none⟩) (n + 1) cap, mv] 33 (0, 0)) ∧
    (w1.setCell ⟨kb, 0, none⟩ (.slice (some ⟨g, 0, none⟩) (n + 1) cap)).ownsRow (kb + 1) 29 2 (.slice (some ⟨g, 0, none⟩) (n + 1) cap) (n + 1) news ∧
    Frame kb w (w1.setCell ⟨kb, 0, none⟩ (.slice (some ⟨g, 0, none⟩) (n + 1) cap)) ∧
    (∀ bm m (D : DataW Unit), w.ownsMap Yba.prog 9 (plainElem Yba.prog 3) bm m D → (w1.setCell ⟨kb, 0, none⟩ (.slice (some ⟨g, 0, none⟩) (n + 1) cap)).ownsMap Yba.prog 9 (plainElem Yba.prog 3) bm m D) := by
  have hlt := lt_of_block hb
  have hba : (w.alloc (newKV q v)).heap[kb]? = some (.cells #[lv, mv] 33 (0, 0)) := by rw [Below.heap_alloc _ _ _ hlt]; exact hb
  have hne : some kb ≠ lv.ownBlock := by
    intro e
    have := (own_block hown e.symm).1
    omega
  have hb1 : w1.heap[kb]? = some (.cells #[lv, mv] 33 (0, 0)) := by rw [hgrow.block kb (lt_of_block hba) hne]; exact hba
  refine ⟨hb1, two_store0 hb1, ownsRow_setCell_below hown1 (Nat.lt_succ_self kb) _, ?_, ?_⟩
  · refine (((Frame.refl kb w).alloc (Nat.le_of_lt hlt) _).grown hgrow (Nat.le_of_lt (lt_of_block hba)) ?_).grown (grownBy_setCell _ _ _) (Nat.le_of_lt (lt_of_block hb1)) ?_
    · intro k e
      obtain ⟨hg, cur, hh⟩ := own_block (hown.alloc (newKV q v)) e
      exact ⟨by omega, fun cur' fr => by rw [hh]; simp⟩
    · intro k e
      simp at e
      subst e
      exact ⟨Nat.le_refl _, fun cur' fr => by rw [hb1]; simp⟩
  · intro bm m D hm
    have h1 := (hm.alloc (newKV q v)).kept hgrow (by
      intro e
      obtain ⟨_, cur, hh⟩ := own_block (hown.alloc (newKV q v)) e.symm
      obtain ⟨es, clock, hmb, _⟩ := hm.alloc (newKV q v)
      rw [hh] at hmb
      simp at hmb)
    refine h1.kept (grownBy_setCell _ _ _) ?_
    intro e
    simp at e
    subst e
    obtain ⟨es, clock, hmb, _⟩ := h1
    rw [hb1] at hmb
    simp at hmb

theorem kv_oneCell (q : ByteArray) (v : Int) : ∀ u ∈ [Value.string q, .int .i64 v], u.oneCell' = true := by
  intro u hu
  simp at hu
  rcases hu with rfl | rfl <;> rfl

set_option maxHeartbeats 400000 in
theorem put_list {w : World} {kb : Nat} {ks : List ByteArray} {lv : Value} {xs : List Value} (hb : w.heap[kb]? = some (.cells #[lv, .map none] 33 (0, 0))) (hown : w.ownsRow (kb + 1) 29 2 lv ks.length xs)
    (hxs : Pairs ks xs) (hn : ks.length < 16) {q : ByteArray} (hq : q.size ≤ maxLen) (ha : Absent ks ks.length q) (v : Int) :
    Calls Yba.prog 13 #[.pointer (some ⟨kb, 0, none⟩), .string q, .int .i64 v] w fun e w' => e = .returned (.tuple #[]) ∧ KInv w' kb (ks ++ [q]) ∧ Frame kb w w' := by
  have HF := hide (find_k_miss (w := w) ⟨lv, _, xs, hb, hown, hxs, .inl rfl⟩ (by omega) hq ha)
  have hm := fun (w : World) (r : Option Nat) => run_neq_map_nil (P := Yba.prog) w 31 9 3 r Yba.underlying31
  obtain ⟨i0, hi, hz0, hz1, hz2⟩ := info_parts info29
  have h0 := two_cell0 hb
  have HB := hide hb
  have HX := hide hxs
  have hlv : ∃ ao cap, lv = .slice ao ks.length cap := by obtain ⟨ao, cap, e, _⟩ := list_cells hown hxs; exact ⟨ao, cap, e⟩
  obtain ⟨ao, lcap, rfl⟩ := hlv
  clear hb hxs
  go_enter Yba.func13, Yba.ntmps13
  go_wp2_with (first | (go_at_call 11; refine HF.out.mono ?_; rintro e w2 ⟨rfl, hw⟩; subst w2) | (at_builtin; refine wpList_append_shape _ rfl _ _ 27 rfl (kb + 1) 29 i0 _ 2 24 Yba.underlying27 hi hz0 hz1 hz2 rfl (by decide) (.slice ao ks.length lcap) _ _ rfl (hown.alloc (newKV q v)) ⟨w.heap.size, 0, none⟩ 1 1 [.string q, .int .i64 v] rfl rfl (newKV_cells _ _ _) (kv_oneCell _ _) (by unfold maxLen; omega) (by omega) (by simp; have := lt_of_block HB.out; omega) (by decide) ?_; intro g cap w1 hown1 hgrow1; have S := hide (append_step HB.out hown hown1 hgrow1); have c0 := two_cell0 S.out.1; have c1 := two_cell1 S.out.1; have f0 := two_free S.out.1 0; clear hown1 hgrow1))
  first | go_end0 | refine bodyPost_ret (results_none rfl _ _ _) rfl ?_
  obtain ⟨_, hb2, hown2, hfr, _⟩ := S.out
  exact ⟨rfl, ⟨_, _, _, hb2, by simpa using hown2, keys_snoc hown.1 HX.out, .inl rfl⟩, hfr⟩
end Go.Proofs.Ybulktlo
