import Derived.Test.YbulktloSome
import Derived.Test.YbulktloEq
import Derived.Test.YbulktloItems
namespace Go.Proofs.Ybulktlo
open Go.RowKit

theorem four_new (w : World) (o0 o1 o2 o3 : Obj) : ((((w.alloc o0).alloc o1).alloc o2).alloc o3).heap.size = w.heap.size + 1 + 1 + 1 + 1 ∧
    ((((w.alloc o0).alloc o1).alloc o2).alloc o3).heap[w.heap.size]? = some o0 ∧ ((((w.alloc o0).alloc o1).alloc o2).alloc o3).heap[w.heap.size + 1]? = some o1 ∧
    ((((w.alloc o0).alloc o1).alloc o2).alloc o3).heap[w.heap.size + 1 + 1]? = some o2 ∧ ((((w.alloc o0).alloc o1).alloc o2).alloc o3).heap[w.heap.size + 1 + 1 + 1]? = some o3 ∧
    Below w.heap.size w ((((w.alloc o0).alloc o1).alloc o2).alloc o3) := by
  refine ⟨by simp, ?_, ?_, ?_, ?_, ((((Below.refl _ _).alloc (Nat.le_refl _) _).alloc (by simp) _).alloc (by simp; omega) _).alloc (by simp; omega) _⟩
  · show ((((w.heap.push o0).push o1).push o2).push o3)[w.heap.size]? = _
    simp only [Array.getElem?_push, Array.size_push]
    rw [if_neg (by omega), if_neg (by omega), if_neg (by omega), if_pos trivial]
  · show ((((w.heap.push o0).push o1).push o2).push o3)[w.heap.size + 1]? = _
    simp only [Array.getElem?_push, Array.size_push]
    rw [if_neg (by omega), if_neg (by omega), if_pos trivial]
  · show ((((w.heap.push o0).push o1).push o2).push o3)[w.heap.size + 1 + 1]? = _
    simp only [Array.getElem?_push, Array.size_push]
    rw [if_neg (by omega), if_pos trivial]
  · show ((((w.heap.push o0).push o1).push o2).push o3)[w.heap.size + 1 + 1 + 1]? = _
    simp only [Array.getElem?_push, Array.size_push]
    rw [if_pos trivial]

theorem reads_own {w : World} {base n cap : Nat} {ao : Option Addr} {L : List Nat} (h : w.ownsRow base 3 1 (.slice ao n cap) n (intV L)) : Reads w ao n (fun i => ((L.getD i 0 : Nat) : Int)) := by
  intro i hi
  obtain ⟨g, cap', e⟩ := own_form h (by omega)
  simp at e
  obtain ⟨rfl, rfl⟩ := e
  refine ⟨g, rfl, ?_⟩
  rw [h.cellAt i (by omega)]
  have hl : i < L.length := by have := h.1; rw [intV_len] at this; omega
  show _ = some (Value.int .i64 ((L.getD i 0 : Nat) : Int))
  unfold intV
  rw [List.getElem?_map, List.getElem?_eq_getElem hl, List.getD_eq_getElem?_getD, List.getElem?_eq_getElem hl]
  rfl

theorem reads_below {w w' : World} {ao : Option Addr} {n B : Nat} {xs : Nat → Int} (h : Reads w ao n xs) (hb : Below B w w') (hB : B = w.heap.size) : Reads w' ao n xs := by
  intro i hi
  obtain ⟨g, e, hc⟩ := h i hi
  refine ⟨g, e, ?_⟩
  rw [hb.cell (by rw [hB]; exact lt_of_cell' hc)]
  exact hc

theorem reads_shorter {w : World} {ao : Option Addr} {n m : Nat} {xs ys : Nat → Int} (h : Reads w ao n xs) (hm : m ≤ n) (he : ∀ i, i < m → xs i = ys i) : Reads w ao m ys := by
  intro i hi
  obtain ⟨g, e, hc⟩ := h i (by omega)
  exact ⟨g, e, by rw [← he i hi]; exact hc⟩

theorem sel_succ (kp : Nat → Bool) (ms : Nat → Nat) (k : Nat) : sel kp ms 0 (k + 1) = sel kp ms 0 k ++ if kp (ms k) then [k] else [] := by
  have h := sel_split kp ms k 0 0
  simp only [Nat.zero_add, Nat.add_zero] at h
  rw [h]
  simp [sel]

theorem new_one (w : World) (k : Int) : ∀ (j : Nat) (u : Value), [Value.int .i64 k][j]? = some u → (w.alloc (.cells #[.int .i64 k] 3)).cell? ((⟨w.heap.size, 0, none⟩ : Addr).add j) = some u := cell_one_new w (.int .i64 k) 3

theorem own_cap {w : World} {base : Nat} {e : TypeId} {size n cap : Nat} {ao : Option Addr} {xs : List Value} (h : w.ownsRow base e size (.slice ao n cap) n xs) : n ≤ cap := by
  rcases h.2 with ⟨e, h0⟩ | ⟨g, cap', cur, e, _, _, hn, _⟩
  · omega
  · simp at e
    omega
end Go.Proofs.Ybulktlo
