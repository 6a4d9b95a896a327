import Derived.Test.YbulktloRows
import Derived.WalkKit
import Derived.ProofKit
import Derived.SliceStrings
namespace Go.Proofs.Ybulktlo
open Go.ChangeShapes Go.WideShapes Go.ChangeAt Go.RowKit

/-- WHAT A WALK IS TOLD OF A SLICE OF STRINGS THAT CAME IN: it has no element; or its elements lie in a row, element i the string 'ss.getD i'. -/
def IsStrs (w : World) (a : Option Addr) (len _cap : Nat) (ss : List ByteArray) : Prop :=
  (len ≤ ss.length ∧ ∀ s ∈ ss, s.size ≤ maxLen) ∧
  (len = 0 ∨ ∃ b off, a = some ⟨b, off, none⟩ ∧ b < w.heap.size ∧ ∀ i, i < len → w.cell? ⟨b, off + i, none⟩ = some (.string (ss.getD i ByteArray.empty)))

theorem lt_of_cell {w : World} {a : Addr} {v : Value} (h : w.cell? a = some v) : a.block < w.heap.size := by
  unfold World.cell? at h
  by_cases e : a.block < w.heap.size
  · exact e
  · rw [Array.getElem?_eq_none (by omega)] at h
    simp at h

theorem isStrs_open {H : Type} {enc : TypeId × Value → H} {w : World} {a : Option Addr} {len cap : Nat} {d : DataW H} {ps : List MemPlace}
    (h : DataW.Trod enc Yba.prog w 0 (fun _ => true) true 26 (.slice a len cap) d ps) : ∃ ss, IsStrs w a len cap ss := by
  obtain ⟨fuel, hf⟩ := h
  rcases open_strings Yba.underlying26 Yba.underlying9 (by kernel_rfl) hf with ⟨hcs, _⟩ | ⟨x, l, c, ss, hcs, _, hl, hm, hz, _, hcell, hsz⟩
  · simp [Value.cells] at hcs
    obtain ⟨rfl, rfl, rfl⟩ := hcs
    exact ⟨[], ⟨Nat.le_refl _, by simp⟩, .inl rfl⟩
  · simp [Value.cells] at hcs
    obtain ⟨rfl, rfl, rfl⟩ := hcs
    simp only [if_true] at hz
    refine ⟨ss, ⟨by omega, hsz⟩, ?_⟩
    rcases Nat.eq_zero_or_pos len with e | hp
    · exact .inl e
    · obtain ⟨b, off, spot⟩ := x
      have hc := hcell 0 (by omega)
      have hspot : spot = none := by simpa [Addr.add] using World.cell?_spot hc
      subst hspot
      have hlt : b < w.heap.size := by simpa [Addr.add] using lt_of_cell hc
      refine .inr ⟨b, off, rfl, hlt, fun i hi => ?_⟩
      have h := hcell i (by omega)
      by_cases e : i = 0
      · subst e; simpa [Addr.add] using h
      · simpa [Addr.add, e] using h
end Go.Proofs.Ybulktlo
