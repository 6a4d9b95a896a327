import Derived.Test.YbulktloLog
import Derived.BigQuiet
import Derived.Deep.QuietTactic
namespace Go.Proofs.Ybulktlo
open Go.RowKit

/-- zzs0989ceq at two slices of one content -/
def Reads (w : World) (ao : Option Addr) (n : Nat) (xs : Nat → Int) : Prop := ∀ i, i < n → ∃ g, ao = some ⟨g, 0, none⟩ ∧ w.cell? ⟨g, i, none⟩ = some (.int .i64 (xs i))

theorem Reads.at {w : World} {ao : Option Addr} {n : Nat} {xs : Nat → Int} (h : Reads w ao n xs) (hn : 0 < n) : ∃ g, ao = some ⟨g, 0, none⟩ ∧ ∀ i, i < n → w.cell? ⟨g, i, none⟩ = some (.int .i64 (xs i)) := by
  obtain ⟨g, e, -⟩ := h 0 hn
  refine ⟨g, e, fun i hi => ?_⟩
  obtain ⟨g', e', hc⟩ := h i hi
  rw [e] at e'
  simp at e'
  subst e'
  exact hc

set_option maxHeartbeats 400000 in
theorem eq_any (n c1 c2 : Nat) (ao1 ao2 : Option Addr) (xs : Nat → Int) (hn : n ≤ 100000) (w : World) (h1 : Reads w ao1 n xs) (h2 : Reads w ao2 n xs) :
    Calls Yba.prog 18 #[.slice ao1 n c1, .slice ao2 n c2] w fun e w' => e = .returned (.bool true) ∧ Below w.heap.size w w' := by
  have hnn : ((n : Int) != (n : Int)) = false := by simp
  rcases Nat.eq_zero_or_pos n with rfl | hpos
  · go_enter Yba.func18, Yba.ntmps18
    go_wp2_with fail
    refine wp_loop_rounds 1 ?_
    rw [rounds_succ]
    go_wp2_with fail
    go_ret
    exact ⟨rfl, Below.refl _ _⟩
  · obtain ⟨g1, rfl, k1⟩ := h1.at hpos
    obtain ⟨g2, rfl, k2⟩ := h2.at hpos
    have HK := hide (And.intro k1 k2)
    clear h1 h2 k1 k2
    go_enter Yba.func18, Yba.ntmps18
    go_wp2_with fail
    go_loopw [13] (fun i wr => ∃ k : Nat, k ≤ n ∧ i = .int .i64 k ∧ Hid (Below w.heap.size w wr ∧ wr.heap = w.heap)) (fun i _ => n - (intOf i).toNat)
    case atStart => exact ⟨0, Nat.zero_le _, rfl, Below.refl _ _, rfl⟩
    case round =>
      obtain ⟨k, hk, rfl, HR⟩ := hrel
      by_cases hkn : k < n
      · have d1 : wr.cell? ⟨g1, k, none⟩ = some (.int .i64 (xs k)) := by rw [← HK.out.1 k hkn]; unfold World.cell?; rw [HR.out.2]
        have d2 : wr.cell? ⟨g2, k, none⟩ = some (.int .i64 (xs k)) := by rw [← HK.out.2 k hkn]; unfold World.cell?; rw [HR.out.2]
        have hxx : (xs k != xs k) = false := by simp
        go_wp2_with fail
        go_quiet (fail)
        go_wp2_with fail
        go_roundw
        case rel => exact ⟨k + 1, by omega, by go_num, HR.out.1.trans ⟨rfl, rfl, rfl, Nat.le_refl _, fun _ _ => rfl⟩, HR.out.2⟩
        case measure => simp [intOf]; omega
      · go_wp2_with fail
        go_ret
        exact ⟨rfl, HR.out.1⟩
end Go.Proofs.Ybulktlo
