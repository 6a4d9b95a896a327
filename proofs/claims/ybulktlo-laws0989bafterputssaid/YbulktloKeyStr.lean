import Derived.Test.YbulktloPutMake
import Derived.Test.YbulktloStrs
import Derived.Laws.BytesArg
namespace Go.Proofs.Ybulktlo
open Go.ChangeShapes Go.WideShapes Go.RowKit

/-- .. and a nil slice has no room -/
def IsStrs2 (w : World) (a : Option Addr) (len cap : Nat) (ss : List ByteArray) : Prop := IsStrs w a len cap ss ∧ (a = none → len = 0 ∧ cap = 0)

theorem isStrs2_open {H : Type} {enc : TypeId × Value → H} {w : World} {a : Option Addr} {len cap : Nat} {d : DataW H} {ps : List MemPlace}
    (h : DataW.Trod enc Yba.prog w 0 (fun _ => true) true 26 (.slice a len cap) d ps) : ∃ ss, IsStrs2 w a len cap ss := by
  obtain ⟨ss, hs⟩ := isStrs_open h
  refine ⟨ss, hs, ?_⟩
  obtain ⟨fuel, hf⟩ := h
  rcases open_strings Yba.underlying26 Yba.underlying9 (by kernel_rfl) hf with ⟨hcs, _⟩ | ⟨x, l, c, ss, hcs, _⟩
  · simp [Value.cells] at hcs
    exact fun _ => hcs.2
  · simp [Value.cells] at hcs
    intro e
    rw [e] at hcs
    simp at hcs

/-! zzs0989bkey: some string of two bytes. -/
theorem conv_two (w : World) (x y : Int) : ∃ s : ByteArray, s.size ≤ maxLen ∧ (convert 60 9 (.slice (some ⟨w.heap.size, 0, none⟩) 2 2)).run Yba.prog (w.alloc (.cells #[.int .u8 x, .int .u8 y] 5)) = .ok (.string s) (w.alloc (.cells #[.int .u8 x, .int .u8 y] 5)) := by
  have hh : (w.alloc (.cells #[.int .u8 x, .int .u8 y] 5)).heap[w.heap.size]? = some (.cells #[.int .u8 x, .int .u8 y] 5 (0, 0)) := (MapKept.heap_alloc w _).1
  refine ⟨strOfNums [x, y], ?_, run_convert_bytes_arg _ 60 5 Yba.underlying60 Yba.underlying5 w.heap.size 0 2 2 [x, y] rfl ?_ 9 Yba.underlying9⟩
  · unfold maxLen
    have e : (strOfNums [x, y]).size = 2 := by simp [strOfNums, ByteArray.size]
    omega
  · intro i hi
    match i, hi with
    | 0, _ => exact two_cell0 hh
    | 1, _ => exact two_cell1 hh

set_option maxHeartbeats 400000 in
theorem bkey_any (i : Int) (h0 : 0 ≤ i) (h1 : i < 1000) (w : World) :
    Calls Yba.prog 12 #[.int .i64 i] w fun e w' => ∃ s : ByteArray, e = .returned (.string s) ∧ s.size ≤ maxLen ∧ Below w.heap.size w w' ∧ w'.heap.size = w.heap.size + 1 := by
  obtain ⟨s, hs, hrun⟩ := conv_two w (97 + i % 26) (65 + i / 26 % 26)
  go_enter Yba.func12, Yba.ntmps12
  go_wp2
  go_ret
  exact ⟨s, rfl, hs, (Below.refl _ _).alloc (Nat.le_refl _) _, by simp⟩
end Go.Proofs.Ybulktlo
