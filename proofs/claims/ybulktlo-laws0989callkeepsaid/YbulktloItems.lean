import Derived.Test.YbulktloBuild
import Derived.Deep.SlicePairs
import Derived.OpenShut
namespace Go.Proofs.Ybulktlo
open Go.ChangeShapes Go.WideShapes Go.RowKit

/-- WHAT A WALK IS TOLD OF THE ITEMS THAT CAME IN: there is none; or place i's mask and pick lie in a row. -/
def IsItems (w : World) (a : Option Addr) (len _cap : Nat) (mp : (Nat → Nat) × (Nat → Nat)) : Prop :=
  ((∀ i, mp.1 i < 256) ∧ ∀ i, mp.2 i < 256) ∧ (len = 0 ∨ ∃ b off, a = some ⟨b, off, none⟩ ∧ b < w.heap.size ∧ Items w b off len mp.1 mp.2)

theorem lt_of_cell' {w : World} {a : Addr} {v : Value} (h : w.cell? a = some v) : a.block < w.heap.size := by
  unfold World.cell? at h
  by_cases e : a.block < w.heap.size
  · exact e
  · rw [Array.getElem?_eq_none (by omega)] at h
    simp at h

/-- a cell that reads as a byte -/
theorem byte_of {H : Type} {enc : TypeId × Value → H} {w : World} {n : Nat} {v : Value} {y : DataW H × List MemPlace} (h : DataW.trod enc Yba.prog w 0 (fun _ => true) true n 5 [v] = some y) : ∃ x : Nat, x < 256 ∧ v = .int .u8 (x : Int) := by
  obtain ⟨a, e, _, hw⟩ := DataW.trod_int Yba.underlying5 h
  have hb := bounds_u8 hw
  simp at e
  subst e
  exact ⟨a.toNat, by omega, by rw [Int.toNat_of_nonneg hb.1]⟩

theorem isItems_open {H : Type} {enc : TypeId × Value → H} {w : World} {a : Option Addr} {len cap : Nat} {d : DataW H} {ps : List MemPlace}
    (h : DataW.Trod enc Yba.prog w 0 (fun _ => true) true 41 (.slice a len cap) d ps) : ∃ mp, IsItems w a len cap mp := by
  obtain ⟨fuel, hf⟩ := h
  rcases Deep.open_slice_pairs Yba.underlying41 Yba.underlying52 (by kernel_rfl) rfl rfl (by kernel_rfl) (by kernel_rfl) hf with ⟨hcs, _⟩ | ⟨x, l, c, m, n, V0, V1, D0, D1, P0, P1, hcs, _, hl, hm, hmm, _, hx⟩
  · simp [Value.cells] at hcs
    obtain ⟨rfl, rfl, rfl⟩ := hcs
    exact ⟨(fun _ => 0, fun _ => 0), ⟨by simp, by simp⟩, .inl rfl⟩
  · simp [Value.cells] at hcs
    obtain ⟨rfl, rfl, rfl⟩ := hcs
    simp only [if_true] at hmm
    subst hmm
    have hv : ∀ i, i < m → ∃ u v : Nat, u < 256 ∧ v < 256 ∧ V0 i = .int .u8 (u : Int) ∧ V1 i = .int .u8 (v : Int) := by
      intro i hi
      obtain ⟨_, _, t0, t1⟩ := hx i hi
      obtain ⟨u, hu, e0⟩ := byte_of t0
      obtain ⟨v, hv, e1⟩ := byte_of t1
      exact ⟨u, v, hu, hv, e0, e1⟩
    refine ⟨(fun i => (intOf (V0 i)).toNat % 256, fun i => (intOf (V1 i)).toNat % 256), ⟨fun i => Nat.mod_lt _ (by decide), fun i => Nat.mod_lt _ (by decide)⟩, ?_⟩
    rcases Nat.eq_zero_or_pos len with e | hp
    · exact .inl e
    · obtain ⟨b, off, spot⟩ := x
      have hc := (hx 0 (by omega)).1
      have hspot : spot = none := by simpa [Addr.add] using World.cell?_spot hc
      subst hspot
      have hlt : b < w.heap.size := by simpa [Addr.add] using lt_of_cell' hc
      refine .inr ⟨b, off, rfl, hlt, fun i hi => ?_⟩
      obtain ⟨c0, c1, _, _⟩ := hx i (by omega)
      obtain ⟨u, v, hu, hv', e0, e1⟩ := hv i (by omega)
      rw [Addr.add_lit, e0] at c0
      rw [Addr.add_lit, e1] at c1
      have r0 : (intOf (V0 i)).toNat % 256 = u := by rw [e0]; simp [intOf]; omega
      have r1 : (intOf (V1 i)).toNat % 256 = v := by rw [e1]; simp [intOf]; omega
      simp only [r0, r1]
      exact ⟨c0, by rw [← c1, Nat.add_assoc]⟩
end Go.Proofs.Ybulktlo
