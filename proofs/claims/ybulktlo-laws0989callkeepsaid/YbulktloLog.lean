import Derived.Test.YbulktloBuild
namespace Go.Proofs.Ybulktlo
open Go.RowKit

/-- numbers as cells -/
def intV (L : List Nat) : List Value := L.map fun (k : Nat) => Value.int .i64 (k : Int)
theorem intV_len (L : List Nat) : (intV L).length = L.length := by simp [intV]
theorem intV_snoc (L : List Nat) (k : Nat) : intV L ++ [.int .i64 (k : Int)] = intV (L ++ [k]) := by simp [intV]
theorem info3 : (Yba.prog.info? 3).map (fun i => (i.zero, i.size, i.bytes)) = some (some (.int .i64 0), 1, 8) := by kernel_rfl
theorem one3 (k : Int) : ∀ u ∈ [Value.int .i64 k], u.oneCell' = true := by intro u hu; simp at hu; subst hu; rfl

/-- THE LOG's VARIABLES: the slice (block bl) owns the places L, in order; the count (block bc) is their number; the limit (block bm). -/
def LogInv (w : World) (bl bc bm base lim : Nat) (L : List Nat) : Prop :=
  (bl < base ∧ bc < base ∧ bm < base ∧ bl ≠ bc ∧ bl ≠ bm ∧ bc ≠ bm ∧ base ≤ w.heap.size) ∧ w.heap[bc]? = some (.cells #[.int .i64 (L.length : Int)] 3 (0, 0)) ∧ w.heap[bm]? = some (.cells #[.int .i64 (lim : Int)] 3 (0, 0)) ∧
    ∃ ao cap, w.heap[bl]? = some (.cells #[.slice ao L.length cap] 44 (0, 0)) ∧ w.ownsRow base 3 1 (.slice ao L.length cap) L.length (intV L)

/-- what an entry into the log leaves alone -/
structure LogFrame (bl bc base : Nat) (w w' : World) : Prop where
  os : w'.os = w.os
  tape : w'.tape = w.tape
  output : w'.output = w.output
  size : w.heap.size ≤ w'.heap.size
  block : ∀ k, k < base → k ≠ bl → k ≠ bc → w'.heap[k]? = w.heap[k]?

theorem LogFrame.refl (bl bc base : Nat) (w : World) : LogFrame bl bc base w w := ⟨rfl, rfl, rfl, Nat.le_refl _, fun _ _ _ _ => rfl⟩
theorem LogFrame.trans {bl bc base : Nat} {a b c : World} (h : LogFrame bl bc base a b) (k : LogFrame bl bc base b c) : LogFrame bl bc base a c :=
  ⟨k.os.trans h.os, k.tape.trans h.tape, k.output.trans h.output, Nat.le_trans h.size k.size, fun i h1 h2 h3 => (k.block i h1 h2 h3).trans (h.block i h1 h2 h3)⟩
theorem LogFrame.grown {bl bc base : Nat} {a w w' : World} {row : Option Nat} (h : LogFrame bl bc base a w) (hg : w.grownBy w' row) (hs : base ≤ w.heap.size) (hr : ∀ k, row = some k → base ≤ k ∨ k = bl ∨ k = bc) : LogFrame bl bc base a w' :=
  h.trans ⟨hg.os, hg.tape, hg.output, hg.size, fun k h1 h2 h3 => hg.block k (by omega) (fun e => by rcases hr k e.symm with h | h | h <;> omega)⟩
theorem LogFrame.below {bl bc base B : Nat} {w w' : World} (h : LogFrame bl bc base w w') (hB : B ≤ base) (h1 : B ≤ bl) (h2 : B ≤ bc) : Below B w w' :=
  ⟨h.os, h.tape, h.output, h.size, fun k hk => h.block k (by omega) (by omega) (by omega)⟩

theorem LogInv.kept {w w' : World} {bl bc bm base lim bl' bc' : Nat} {L : List Nat} (h : LogInv w bl bc bm base lim L) (hf : LogFrame bl' bc' base w w') (h1 : bl ≠ bl' ∧ bl ≠ bc' ∧ bc ≠ bl' ∧ bc ≠ bc' ∧ bm ≠ bl' ∧ bm ≠ bc') (hrow : ∀ g cur, base ≤ g → w.heap[g]? = some (.cells cur 3 (0, 0)) → w'.heap[g]? = some (.cells cur 3 (0, 0))) : LogInv w' bl bc bm base lim L := by
  obtain ⟨⟨a1, a2, a3, a4, a5, a6, a7⟩, hc, hm, ao, cap, hb, hown⟩ := h
  refine ⟨⟨a1, a2, a3, a4, a5, a6, Nat.le_trans a7 hf.size⟩, by rw [hf.block bc a2 (by omega) (by omega)]; exact hc, by rw [hf.block bm a3 (by omega) (by omega)]; exact hm, ao, cap, by rw [hf.block bl a1 (by omega) (by omega)]; exact hb, hown.1, ?_⟩
  rcases hown.2 with h0 | ⟨g, cap', cur, hv, hg, hh, r⟩
  · exact .inl h0
  · exact .inr ⟨g, cap', cur, hv, hg, hrow g cur hg hh, r⟩

theorem new_cell (w : World) (X : Obj) (k : Int) : ∀ (j : Nat) (u : Value), [Value.int .i64 k][j]? = some u → ((w.alloc X).alloc (.cells #[.int .i64 k] 3)).cell? ((⟨w.heap.size + 1, 0, none⟩ : Addr).add j) = some u := by
  intro j u hj
  have e : w.heap.size + 1 = (w.alloc X).heap.size := by simp
  rw [e]
  exact cell_one_new (w.alloc X) (.int .i64 k) 3 j u hj

theorem log_step {w w1 : World} {bl bc bm base lim g cap k : Nat} {L : List Nat} {X Y : Obj} (h : LogInv w bl bc bm base lim L) {ao : Option Addr} {c0 : Nat} (hb : w.heap[bl]? = some (.cells #[.slice ao L.length c0] 44 (0, 0))) (hown : w.ownsRow base 3 1 (.slice ao L.length c0) L.length (intV L))
    (hown1 : w1.ownsRow base 3 1 (.slice (some ⟨g, 0, none⟩) (L.length + 1) cap) (L.length + 1) (intV L ++ [.int .i64 (k : Int)])) (hgrow : ((w.alloc X).alloc Y).grownBy w1 (Value.slice ao L.length c0).ownBlock) :
    (w1.heap[bl]? = some (.cells #[.slice ao L.length c0] 44 (0, 0)) ∧ w1.heap[bc]? = some (.cells #[.int .i64 (L.length : Int)] 3 (0, 0)) ∧ w1.heap[bm]? = some (.cells #[.int .i64 (lim : Int)] 3 (0, 0))) ∧
    LogInv ((w1.setCell ⟨bl, 0, none⟩ (.slice (some ⟨g, 0, none⟩) (L.length + 1) cap)).setCell ⟨bc, 0, none⟩ (.int .i64 ((L.length : Int) + 1))) bl bc bm base lim (L ++ [k]) ∧
    LogFrame bl bc base w ((w1.setCell ⟨bl, 0, none⟩ (.slice (some ⟨g, 0, none⟩) (L.length + 1) cap)).setCell ⟨bc, 0, none⟩ (.int .i64 ((L.length : Int) + 1))) := by
  obtain ⟨⟨a1, a2, a3, a4, a5, a6, a7⟩, hc, hm, -⟩ := h
  have hne : ∀ x, x < base → some x ≠ (Value.slice ao L.length c0).ownBlock := by
    intro x hx e
    have := (own_block hown e.symm).1
    omega
  have hk : ∀ x o, x < base → w.heap[x]? = some o → w1.heap[x]? = some o := by
    intro x o hx ho
    have hlt := lt_of_block ho
    rw [hgrow.block x (by simp; omega) (hne x hx), Below.heap_alloc _ _ _ (by simp; omega), Below.heap_alloc _ _ _ hlt]
    exact ho
  have hb1 := hk bl _ a1 hb
  have hc1 := hk bc _ a2 hc
  have hm1 := hk bm _ a3 hm
  have hs1 : base ≤ w1.heap.size := by have := hgrow.size; simp at this; omega
  refine ⟨⟨hb1, hc1, hm1⟩, ⟨⟨a1, a2, a3, a4, a5, a6, by simpa [World.setCell] using hs1⟩, ?_, ?_, some ⟨g, 0, none⟩, cap, ?_, ?_⟩, ?_⟩
  · have h2 : (w1.setCell ⟨bl, 0, none⟩ (.slice (some ⟨g, 0, none⟩) (L.length + 1) cap)).heap[bc]? = some (.cells #[.int .i64 (L.length : Int)] 3 (0, 0)) := by
      rw [Below.heap_setCell _ _ _ _ (by show bc ≠ bl; omega)]; exact hc1
    rw [one_setCell h2]
    simp
  · rw [Below.heap_setCell _ _ _ _ (by show bm ≠ bc; omega), Below.heap_setCell _ _ _ _ (by show bm ≠ bl; omega)]
    exact hm1
  · rw [Below.heap_setCell _ _ _ _ (by show bl ≠ bc; omega), one_setCell hb1]
    simp
  · have h1 := ownsRow_setCell_below (ownsRow_setCell_below hown1 (a := ⟨bl, 0, none⟩) a1 (.slice (some ⟨g, 0, none⟩) (L.length + 1) cap)) (a := ⟨bc, 0, none⟩) a2 (.int .i64 ((L.length : Int) + 1))
    rw [intV_snoc] at h1
    simpa using h1
  · have h0 : LogFrame bl bc base w w1 := by
      refine (((LogFrame.refl bl bc base w).grown (World.grownBy_alloc w X none) a7 (by simp)).grown (World.grownBy_alloc _ Y none) (by simp; omega) (by simp)).grown hgrow (by simp; omega) ?_
      intro k' e
      exact .inl (own_block hown e).1
    refine (h0.grown (grownBy_setCell _ _ _) hs1 ?_).grown (grownBy_setCell _ _ _) (by simpa [World.setCell] using hs1) ?_
    · intro k' e; simp at e; omega
    · intro k' e; simp at e; omega

theorem dec_cast (a b : Nat) : decide ((a : Int) + 1 ≤ (b : Int)) = decide (a + 1 ≤ b) := by
  rw [decide_eq_decide]
  omega

set_option maxHeartbeats 400000 in
theorem yield17 {w : World} {bl bc bm base lim : Nat} {L : List Nat} (h : LogInv w bl bc bm base lim L) (hn : L.length ≤ 100000) (k : Nat) (K : Int) (hK : K = (k : Int)) (m : Int) :
    Calls Yba.prog 17 #[.agg #[.int .i64 K, .int .u64 m], .pointer (some ⟨bl, 0, none⟩), .pointer (some ⟨bc, 0, none⟩), .pointer (some ⟨bm, 0, none⟩)] w fun e w' =>
      e = .returned (.bool (decide (L.length + 1 ≤ lim))) ∧ LogInv w' bl bc bm base lim (L ++ [k]) ∧ LogFrame bl bc base w w' := by
  have HI := hide h
  obtain ⟨⟨a1, a2, a3, a4, a5, a6, a7⟩, hc, hm, ao, cap, hb, hown⟩ := h
  obtain ⟨i0, hi, hz0, hz1, hz2⟩ := info_parts info3
  have c0 := cell_of_one hb
  have c1 := cell_of_one hc
  have c2 := cell_of_one hm
  have f0 := free_of_one hb
  have f1 := free_of_one hc
  have hlb := lt_of_block hb
  have hlc := lt_of_block hc
  have hlm := lt_of_block hm
  have HB := hide (And.intro hb (And.intro hc hm))
  subst hK
  clear hb hc hm
  go_enter Yba.func17, Yba.ntmps17
  go_wp2_with (at_builtin; refine wpList_append_shape _ rfl (.tmp 6) (.tmp 9) 44 rfl base 3 i0 _ 1 8 Yba.underlying44 hi hz0 hz1 hz2 rfl (by decide) (.slice ao L.length cap) L.length (intV L) rfl ((hown.alloc _).alloc _) ⟨w.heap.size + 1, 0, none⟩ 1 1 [.int .i64 (k : Int)] rfl rfl (new_cell _ _ _) (one3 _) (by unfold maxLen; omega) (by omega) (by simp; omega) (by decide) ?_; intro g cap' w1 hown1 hgrow1; have S := hide (log_step HI.out HB.out.1 hown hown1 hgrow1); have d0 := cell_of_one S.out.1.1; have d1 := cell_of_one S.out.1.2.1; have d2 := cell_of_one S.out.1.2.2; have g0 := free_of_one S.out.1.1; have g1 := free_of_one S.out.1.2.1; clear hown1 hgrow1)
  go_ret
  exact ⟨congrArg (fun b => Ending.returned (.bool b)) (dec_cast _ _), S.out.2⟩
set_option maxHeartbeats 400000 in
theorem yield20 {w : World} {bl bc bm base lim : Nat} {L : List Nat} (h : LogInv w bl bc bm base lim L) (hn : L.length ≤ 100000) (k : Nat) (K : Int) (hK : K = (k : Int)) (m : Int) :
    Calls Yba.prog 20 #[.agg #[.int .i64 K, .int .u64 m], .pointer (some ⟨bl, 0, none⟩), .pointer (some ⟨bc, 0, none⟩), .pointer (some ⟨bm, 0, none⟩)] w fun e w' =>
      e = .returned (.bool (decide (L.length + 1 ≤ lim))) ∧ LogInv w' bl bc bm base lim (L ++ [k]) ∧ LogFrame bl bc base w w' := by
  have HI := hide h
  obtain ⟨⟨a1, a2, a3, a4, a5, a6, a7⟩, hc, hm, ao, cap, hb, hown⟩ := h
  obtain ⟨i0, hi, hz0, hz1, hz2⟩ := info_parts info3
  have c0 := cell_of_one hb
  have c1 := cell_of_one hc
  have c2 := cell_of_one hm
  have f0 := free_of_one hb
  have f1 := free_of_one hc
  have hlb := lt_of_block hb
  have hlc := lt_of_block hc
  have hlm := lt_of_block hm
  have HB := hide (And.intro hb (And.intro hc hm))
  subst hK
  clear hb hc hm
  go_enter Yba.func20, Yba.ntmps20
  go_wp2_with (at_builtin; refine wpList_append_shape _ rfl (.tmp 6) (.tmp 9) 44 rfl base 3 i0 _ 1 8 Yba.underlying44 hi hz0 hz1 hz2 rfl (by decide) (.slice ao L.length cap) L.length (intV L) rfl ((hown.alloc _).alloc _) ⟨w.heap.size + 1, 0, none⟩ 1 1 [.int .i64 (k : Int)] rfl rfl (new_cell _ _ _) (one3 _) (by unfold maxLen; omega) (by omega) (by simp; omega) (by decide) ?_; intro g cap' w1 hown1 hgrow1; have S := hide (log_step HI.out HB.out.1 hown hown1 hgrow1); have d0 := cell_of_one S.out.1.1; have d1 := cell_of_one S.out.1.2.1; have d2 := cell_of_one S.out.1.2.2; have g0 := free_of_one S.out.1.1; have g1 := free_of_one S.out.1.2.1; clear hown1 hgrow1)
  go_ret
  exact ⟨congrArg (fun b => Ending.returned (.bool b)) (dec_cast _ _), S.out.2⟩

set_option maxHeartbeats 400000 in
theorem yield22 {w : World} {bl bc bm base lim : Nat} {L : List Nat} (h : LogInv w bl bc bm base lim L) (hn : L.length ≤ 100000) (k : Nat) (K : Int) (hK : K = (k : Int)) (m : Int) :
    Calls Yba.prog 22 #[.agg #[.int .i64 K, .int .u64 m], .pointer (some ⟨bl, 0, none⟩), .pointer (some ⟨bc, 0, none⟩), .pointer (some ⟨bm, 0, none⟩)] w fun e w' =>
      e = .returned (.bool (decide (L.length + 1 ≤ lim))) ∧ LogInv w' bl bc bm base lim (L ++ [k]) ∧ LogFrame bl bc base w w' := by
  have HI := hide h
  obtain ⟨⟨a1, a2, a3, a4, a5, a6, a7⟩, hc, hm, ao, cap, hb, hown⟩ := h
  obtain ⟨i0, hi, hz0, hz1, hz2⟩ := info_parts info3
  have c0 := cell_of_one hb
  have c1 := cell_of_one hc
  have c2 := cell_of_one hm
  have f0 := free_of_one hb
  have f1 := free_of_one hc
  have hlb := lt_of_block hb
  have hlc := lt_of_block hc
  have hlm := lt_of_block hm
  have HB := hide (And.intro hb (And.intro hc hm))
  subst hK
  clear hb hc hm
  go_enter Yba.func22, Yba.ntmps22
  go_wp2_with (at_builtin; refine wpList_append_shape _ rfl (.tmp 6) (.tmp 9) 44 rfl base 3 i0 _ 1 8 Yba.underlying44 hi hz0 hz1 hz2 rfl (by decide) (.slice ao L.length cap) L.length (intV L) rfl ((hown.alloc _).alloc _) ⟨w.heap.size + 1, 0, none⟩ 1 1 [.int .i64 (k : Int)] rfl rfl (new_cell _ _ _) (one3 _) (by unfold maxLen; omega) (by omega) (by simp; omega) (by decide) ?_; intro g cap' w1 hown1 hgrow1; have S := hide (log_step HI.out HB.out.1 hown hown1 hgrow1); have d0 := cell_of_one S.out.1.1; have d1 := cell_of_one S.out.1.2.1; have d2 := cell_of_one S.out.1.2.2; have g0 := free_of_one S.out.1.1; have g1 := free_of_one S.out.1.2.1; clear hown1 hgrow1)
  go_ret
  exact ⟨congrArg (fun b => Ending.returned (.bool b)) (dec_cast _ _), S.out.2⟩

/-! the two tests of a sum -/
theorem nz_cast (a : Nat) : ((a : Int) != 0) = (a != 0) := by
  rw [Bool.eq_iff_iff]
  simp

theorem keep16 (bw W : Nat) (s : Nat) (hs : s < 256) (hW : W < 256) (w : World) (hw : w.heap[bw]? = some (.cells #[.int .u64 (W : Int)] 22 (0, 0))) :
    Calls Yba.prog 16 #[.int .u64 (s : Int), .pointer (some ⟨bw, 0, none⟩)] w fun e w' => e = .returned (.bool (s &&& W != 0)) ∧ w' = w := by
  have c0 := cell_of_one hw
  have hb : bits .and .u64 (s : Int) (W : Int) = ((s &&& W : Nat) : Int) := u64_and_nat s W (by omega) (by omega)
  clear hw
  go_enter Yba.func16, Yba.ntmps16
  go_wp2_with fail
  go_ret
  exact ⟨congrArg (fun b => Ending.returned (.bool b)) (nz_cast _), rfl⟩

theorem keep19 (s : Nat) (w : World) :
    Calls Yba.prog 19 #[.int .u64 (s : Int)] w fun e w' => e = .returned (.bool (s != 0)) ∧ w' = w := by
  go_enter Yba.func19, Yba.ntmps19
  go_wp2_with fail
  go_ret
  exact ⟨congrArg (fun b => Ending.returned (.bool b)) (nz_cast _), rfl⟩
end Go.Proofs.Ybulktlo
