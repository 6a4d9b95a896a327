import Derived.Test.YbulktloTree
import Derived.Test.YbulktloFrame
namespace Go.Proofs.Ybulktlo
open Go.RowKit

/-- the items: place i's mask and pick -/
def Items (w : World) (b off len : Nat) (mk pk : Nat → Nat) : Prop := ∀ i, i < len → w.cell? ⟨b, off + i * 2, none⟩ = some (.int .u8 (mk i)) ∧ w.cell? ⟨b, off + i * 2 + 1, none⟩ = some (.int .u8 (pk i))

theorem Items.below {w w' : World} {b off len B : Nat} {mk pk : Nat → Nat} (h : Items w b off len mk pk) (hb : Below B w w') (hB : b < B) : Items w' b off len mk pk := by
  intro i hi
  rw [hb.cell (by exact hB), hb.cell (by exact hB)]
  exact h i hi

set_option maxHeartbeats 800000 in
theorem build_any (b off len cap : Nat) (mk pk : Nat → Nat) (hmk : ∀ i, mk i < 256) (hpk : ∀ i, pk i < 256) (hlen : len ≤ 1000) : ∀ (d lo n : Nat) (L H : Int) (w : World), L = (lo : Int) → H = (lo : Int) + (n : Int) → lo + n ≤ len → n ≤ d → b < w.heap.size → Items w b off len mk pk →
    Calls Yba.prog 14 #[.slice (some ⟨b, off, none⟩) len cap, .int .i64 L, .int .i64 H] w fun e w' => ∃ p, e = .returned (.pointer p) ∧ TreeAt w' w.heap.size w'.heap.size mk d p lo n ∧ Below w.heap.size w w' := by
  intro d
  induction d with
  | zero =>
    intro lo n L H w hL hH hln hnd hb hit
    obtain rfl : n = 0 := by omega
    subst hL
    obtain rfl : H = (lo : Int) := by omega
    clear hit hmk hpk hH
    go_enter Yba.func14, Yba.ntmps14
    go_wp2_with fail
    go_ret
    exact ⟨none, rfl, ⟨rfl, rfl⟩, Below.refl _ _⟩
  | succ d ih =>
    intro lo n L H w hL hH hln hnd hb hit
    rcases Nat.eq_zero_or_pos n with rfl | hpos
    · subst hL
      obtain rfl : H = (lo : Int) := by omega
      clear hit hmk hpk ih hH
      go_enter Yba.func14, Yba.ntmps14
      go_wp2_with fail
      go_ret
      exact ⟨none, rfl, .inl ⟨rfl, rfl⟩, Below.refl _ _⟩
    · subst hL hH
      have IH := hide ih
      have HI := hide hit
      have hc1 := (hit lo (by omega)).2
      have hp1 := hpk lo
      obtain ⟨a, ha, hmod⟩ : ∃ a : Nat, a < n ∧ ((pk lo : Nat) : Int) % ((lo : Int) + (n : Int) - (lo : Int)) = (a : Int) :=
        ⟨pk lo % n, Nat.mod_lt _ hpos, by rw [show (lo : Int) + (n : Int) - (lo : Int) = (n : Int) by omega]; rfl⟩
      have hk0 := (hit (lo + a) (by omega)).1
      have hm1 := hmk (lo + a)
      have HMK := hide hmk
      clear ih hit hmk hpk
      go_enter Yba.func14, Yba.ntmps14
      go_wp2_with (go_at_call 24; refine (sum_any _ _ _).mono ?_; rintro e w1 ⟨rfl, rfl⟩)
      obtain ⟨W, hW⟩ : ∃ W : World, W = (w.alloc (Obj.cells #[Value.pointer none, Value.pointer none, Value.int IntKind.u64 0, Value.int IntKind.i64 ((lo : Int) + (a : Int)), Value.int IntKind.u64 (mk (lo + a) : Nat), Value.int IntKind.u64 (mk (lo + a) : Nat), Value.int IntKind.u64 0] 62)).alloc (Obj.cells #[Value.int IntKind.i64 ((lo : Int) + (a : Int)), Value.int IntKind.u64 (mk (lo + a) : Nat)] 47) := ⟨_, rfl⟩
      rw [← hW]
      have hWB : Below w.heap.size w W := by rw [hW]; exact ((Below.refl _ _).alloc (Nat.le_refl _) _).alloc (by simp) _
      have hWs : W.heap.size = w.heap.size + 2 := by rw [hW]; simp
      have hWn : W.heap[w.heap.size]? = some (.cells #[Value.pointer none, Value.pointer none, Value.int IntKind.u64 0, Value.int IntKind.i64 ((lo : Int) + (a : Int)), Value.int IntKind.u64 (mk (lo + a) : Nat), Value.int IntKind.u64 (mk (lo + a) : Nat), Value.int IntKind.u64 0] 62 (0, 0)) := by
        rw [hW, Below.heap_alloc _ _ _ (by simp)]
        exact (MapKept.heap_alloc w _).1
      have HW := hide (And.intro hWB (And.intro hWs hWn))
      clear hW hWB hWs hWn hc1 hk0
      refine (IH.out lo a _ _ W rfl rfl (by omega) (by omega) (by rw [HW.out.2.1]; omega) (HI.out.below HW.out.1 hb)).mono ?_
      rintro e w2 ⟨pl, rfl, hT2, hB2⟩
      have hn2 : w2.heap[w.heap.size]? = some (.cells #[Value.pointer none, Value.pointer none, Value.int IntKind.u64 0, Value.int IntKind.i64 ((lo : Int) + (a : Int)), Value.int IntKind.u64 (mk (lo + a) : Nat), Value.int IntKind.u64 (mk (lo + a) : Nat), Value.int IntKind.u64 0] 62 (0, 0)) := by
        rw [hB2.block _ (by rw [HW.out.2.1]; omega)]; exact HW.out.2.2
      have c0 : w2.cell? ⟨w.heap.size, 0, none⟩ = some (.pointer none) := by rw [cell_of_row w2 _ 0 _ 62 (0, 0) hn2]; rfl
      have f0 : w2.frozen? ⟨w.heap.size, 0, none⟩ = false := frozen_of_row w2 _ 0 _ 62 hn2
      have H2 := hide (And.intro hT2 (And.intro hB2 hn2))
      clear hT2 hB2 hn2
      go_wp2_with fail
      have hs2 : (w2.setCell ⟨w.heap.size, 0, none⟩ (.pointer pl)).heap.size = w2.heap.size := by simp [World.setCell]
      have hB2' : Below w.heap.size w (w2.setCell ⟨w.heap.size, 0, none⟩ (.pointer pl)) := (HW.out.1.trans (H2.out.2.1.mono (by rw [HW.out.2.1]; omega))).setCell (Nat.le_refl _) _
      have hn2' : (w2.setCell ⟨w.heap.size, 0, none⟩ (.pointer pl)).heap[w.heap.size]? = some (.cells #[Value.pointer pl, Value.pointer none, Value.int IntKind.u64 0, Value.int IntKind.i64 ((lo : Int) + (a : Int)), Value.int IntKind.u64 (mk (lo + a) : Nat), Value.int IntKind.u64 (mk (lo + a) : Nat), Value.int IntKind.u64 0] 62 (0, 0)) := by
        rw [heap_setCell_same w2 _ 0 _ 62 _ H2.out.2.2]; rfl
      have hT2' : TreeAt (w2.setCell ⟨w.heap.size, 0, none⟩ (.pointer pl)) W.heap.size w2.heap.size mk d pl lo a :=
        TreeAt.kept (fun k hk _ => Below.heap_setCell _ _ _ _ (by show k ≠ w.heap.size; rw [HW.out.2.1] at hk; omega)) (Nat.le_refl _) (Nat.le_refl _) _ _ _ _ H2.out.1
      have hWw2 : W.heap.size ≤ w2.heap.size := H2.out.2.1.size
      have H2' := hide (And.intro hs2 (And.intro hB2' (And.intro hn2' (And.intro hT2' hWw2))))
      clear hs2 hB2' hn2' hT2' H2 c0 f0 hWw2
      generalize w2.setCell ⟨w.heap.size, 0, none⟩ (.pointer pl) = w2' at H2' ⊢
      refine (IH.out (lo + a + 1) (n - a - 1) _ _ w2' (by omega) (by omega) (by omega) (by omega) (by have := H2'.out.2.1.size; omega) (HI.out.below H2'.out.2.1 hb)).mono ?_
      rintro e w3 ⟨pr, rfl, hT3, hB3⟩
      obtain ⟨g1, g2, g3, g4, g5⟩ := H2'.out
      have hsz2 : w.heap.size < w2'.heap.size := by rw [g1]; have := HW.out.2.1; omega
      have hn3 : w3.heap[w.heap.size]? = some (.cells #[Value.pointer pl, Value.pointer none, Value.int IntKind.u64 0, Value.int IntKind.i64 ((lo : Int) + (a : Int)), Value.int IntKind.u64 (mk (lo + a) : Nat), Value.int IntKind.u64 (mk (lo + a) : Nat), Value.int IntKind.u64 0] 62 (0, 0)) := by
        rw [hB3.block _ hsz2]; exact g3
      have c1 : w3.cell? ⟨w.heap.size, 1, none⟩ = some (.pointer none) := by rw [cell_of_row w3 _ 1 _ 62 (0, 0) hn3]; rfl
      have f1 : w3.frozen? ⟨w.heap.size, 1, none⟩ = false := frozen_of_row w3 _ 1 _ 62 hn3
      have hn4 : (w3.setCell ⟨w.heap.size, 1, none⟩ (.pointer pr)).heap[w.heap.size]? = some (.cells #[Value.pointer pl, Value.pointer pr, Value.int IntKind.u64 0, Value.int IntKind.i64 ((lo : Int) + (a : Int)), Value.int IntKind.u64 (mk (lo + a) : Nat), Value.int IntKind.u64 (mk (lo + a) : Nat), Value.int IntKind.u64 0] 62 (0, 0)) := by
        rw [heap_setCell_same w3 _ 1 _ 62 _ hn3]; rfl
      have hTl : TreeAt (w3.setCell ⟨w.heap.size, 1, none⟩ (.pointer pr)) W.heap.size w2.heap.size mk d pl lo a :=
        TreeAt.kept (fun k hk hk2 => by
          rw [Below.heap_setCell _ _ _ _ (by show k ≠ w.heap.size; rw [HW.out.2.1] at hk; omega)]
          exact hB3.block k (by omega)) (Nat.le_refl _) (Nat.le_refl _) _ _ _ _ g4
      have hTr : TreeAt (w3.setCell ⟨w.heap.size, 1, none⟩ (.pointer pr)) w2'.heap.size w3.heap.size mk d pr (lo + a + 1) (n - a - 1) :=
        TreeAt.kept (fun k hk hk2 => Below.heap_setCell _ _ _ _ (by show k ≠ w.heap.size; omega)) (Nat.le_refl _) (Nat.le_refl _) _ _ _ _ hT3
      have hB4 : Below w.heap.size w (w3.setCell ⟨w.heap.size, 1, none⟩ (.pointer pr)) := (g2.trans (hB3.mono (Nat.le_of_lt hsz2))).setCell (Nat.le_refl _) _
      have hs4 : (w3.setCell ⟨w.heap.size, 1, none⟩ (.pointer pr)).heap.size = w3.heap.size := by simp [World.setCell]
      have hs3 := hB3.size
      have H4 := hide (And.intro hn4 (And.intro hTl (And.intro hTr (And.intro hB4 (And.intro hs4 (And.intro hs3 (And.intro g1 g5)))))))
      clear hn3 hn4 hTl hTr hB4 hs4 hs3 g1 g2 g3 g4 g5 hT3 hB3 H2' hsz2
      go_wp2_with fail
      generalize w3.setCell ⟨w.heap.size, 1, none⟩ (.pointer pr) = w4 at H4 ⊢
      obtain ⟨hn4, hTl, hTr, hB4, hs4, hs3, g1, g5⟩ := H4.out
      refine (resum_any w.heap.size pl pr (mk (lo + a)) (orN mk lo a) (orN mk (lo + a + 1) (n - a - 1)) hm1 (orN_lt mk HMK.out _ _) (orN_lt mk HMK.out _ _) w4 (by rw [cell_of_row w4 _ 0 _ 62 (0, 0) hn4]; rfl) (by rw [cell_of_row w4 _ 1 _ 62 (0, 0) hn4]; rfl) (by rw [cell_of_row w4 _ 5 _ 62 (0, 0) hn4]; rfl) (.int .u64 0) (by rw [cell_of_row w4 _ 6 _ 62 (0, 0) hn4]; rfl) (frozen_of_row w4 _ 6 _ 62 hn4) hTl.child hTr.child).mono ?_
      rintro e w5 ⟨rfl, rfl⟩
      clear hn4 hTl hTr hB4 hs4 hs3 g1 g5
      go_wp2_with fail
      go_ret
      obtain ⟨hn4, hTl, hTr, hB4, hs4, hs3, g1, g5⟩ := H4.out
      have hWs := HW.out.2.1
      refine ⟨some ⟨w.heap.size, 0, none⟩, rfl, .inr ⟨w.heap.size, pl, pr, a, n - a - 1, rfl, Nat.le_refl _, ?_, by omega, ?_, ?_, ?_⟩, hB4.setCell (Nat.le_refl _) _⟩
      · have : (w4.setCell ⟨w.heap.size, 6, none⟩ (.int .u64 (((orN mk lo a ||| mk (lo + a)) ||| orN mk (lo + a + 1) (n - a - 1) : Nat) : Int))).heap.size = w4.heap.size := by simp [World.setCell]
        omega
      · rw [heap_setCell_same w4 _ 6 _ 62 _ hn4]
        have e : orN mk lo n = (orN mk lo a ||| mk (lo + a)) ||| orN mk (lo + a + 1) (n - a - 1) := by
          rw [← orN_split, show a + 1 + (n - a - 1) = n by omega]
        rw [e]
        simp [nodeCells]
      · refine TreeAt.kept (fun k hk hk2 => Below.heap_setCell _ _ _ _ (by show k ≠ w.heap.size; omega)) (by omega) ?_ _ _ _ _ hTl
        show _ ≤ (w4.setCell _ _).heap.size
        simp [World.setCell]
        omega
      · refine TreeAt.kept (fun k hk hk2 => Below.heap_setCell _ _ _ _ (by show k ≠ w.heap.size; omega)) (by omega) ?_ _ _ _ _ hTr
        show _ ≤ (w4.setCell _ _).heap.size
        simp [World.setCell]
        omega

/-- no item: no node -/
theorem build_zero (ao : Option Addr) (cap : Nat) (w : World) : Calls Yba.prog 14 #[.slice ao 0 cap, .int .i64 0, .int .i64 0] w fun e w' => e = .returned (.pointer none) ∧ w' = w := by
  go_enter Yba.func14, Yba.ntmps14
  go_wp2_with fail
  go_ret
  exact ⟨rfl, rfl⟩
end Go.Proofs.Ybulktlo
