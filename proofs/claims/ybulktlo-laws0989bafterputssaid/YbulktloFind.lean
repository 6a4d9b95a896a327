import Derived.Test.YbulktloRows
import Derived.WalkKit
import Derived.ProofKit
import Derived.WalkSpells
import Derived.WalkLawsBesides
namespace Go.Proofs.Ybulktlo
open Go.RowKit

/-- The first place at which a test says yes, if there is one. -/
theorem least (p : Nat → Bool) : ∀ n, (∃ j, j < n ∧ p j = true ∧ ∀ i, i < j → p i = false) ∨ ∀ i, i < n → p i = false
  | 0 => .inr fun i hi => absurd hi (Nat.not_lt_zero _)
  | n + 1 => by
    rcases least p n with ⟨j, hj, h⟩ | h
    · exact .inl ⟨j, by omega, h⟩
    · cases hp : p n
      · refine .inr fun i hi => ?_
        by_cases e : i = n
        · subst e; exact hp
        · exact h i (by omega)
      · exact .inl ⟨n, by omega, hp, h⟩

/-! (*keyed[int]).find over the list alone (no index): the first place of the key; else (0, false). -/
set_option maxHeartbeats 400000 in
theorem find_hit (kb g n cap j : Nat) (q : ByteArray) (ks : Nat → ByteArray) (w : World) (hn : n ≤ 1000000)
    (h0 : w.cell? ⟨kb, 0, none⟩ = some (.slice (some ⟨g, 0, none⟩) n cap)) (h1 : w.cell? ⟨kb, 1, none⟩ = some (.map none))
    (hc : ∀ i, i < n → w.cell? ⟨g, i * 2, none⟩ = some (.string (ks i)))
    (hj : j < n) (hlt : ∀ i, i < j → ((ks i).toList == q.toList) = false) (heq : ((ks j).toList == q.toList) = true) :
    Calls Yba.prog 11 #[.pointer (some ⟨kb, 0, none⟩), .string q] w fun e w' => e = .returned (.tuple #[.int .i64 j, .bool true]) ∧ w' = w := by
  have hm := fun (w : World) (r : Option Nat) => run_neq_map_nil (P := Yba.prog) w 31 9 3 r Yba.underlying31
  go_enter Yba.func11, Yba.ntmps11
  go_wp2
  go_loop [30] (fun i => ∃ k : Nat, k ≤ j ∧ i = .int .i64 k) (fun i => n - (intOf i).toNat)
  case atStart => exact ⟨0, Nat.zero_le _, rfl⟩
  case round =>
    obtain ⟨k, hk, rfl⟩ := hrel
    have hcx := hc k (by omega)
    have hkn : k < n := by omega
    by_cases hkj : k < j
    · have hne := hlt k hkj
      go_wp2
      go_round
      case rel => exact ⟨k + 1, by omega, by go_num⟩
      case measure => simp [intOf]; omega
    · obtain rfl : k = j := by omega
      go_wp2
      go_ret2
      exact ⟨rfl, rfl⟩

set_option maxHeartbeats 400000 in
theorem find_miss (kb n cap : Nat) (ao : Option Addr) (q : ByteArray) (ks : Nat → ByteArray) (w : World) (hn : n ≤ 1000000)
    (h0 : w.cell? ⟨kb, 0, none⟩ = some (.slice ao n cap)) (h1 : w.cell? ⟨kb, 1, none⟩ = some (.map none))
    (hc : ∀ i, i < n → ∃ g, ao = some ⟨g, 0, none⟩ ∧ w.cell? ⟨g, i * 2, none⟩ = some (.string (ks i)))
    (hlt : ∀ i, i < n → ((ks i).toList == q.toList) = false) :
    Calls Yba.prog 11 #[.pointer (some ⟨kb, 0, none⟩), .string q] w fun e w' => e = .returned (.tuple #[.int .i64 0, .bool false]) ∧ w' = w := by
  have hm := fun (w : World) (r : Option Nat) => run_neq_map_nil (P := Yba.prog) w 31 9 3 r Yba.underlying31
  rcases Nat.eq_zero_or_pos n with rfl | hpos
  · clear hc hlt
    go_enter Yba.func11, Yba.ntmps11
    go_wp2
    refine wp_loop_rounds 1 ?_
    rw [rounds_succ]
    go_wp2
    go_ret2
    exact ⟨rfl, rfl⟩
  obtain ⟨g, rfl, -⟩ := hc 0 hpos
  have hc' : ∀ i, i < n → w.cell? ⟨g, i * 2, none⟩ = some (.string (ks i)) := by
    intro i hi
    obtain ⟨g', e, h⟩ := hc i hi
    simp at e
    subst e
    exact h
  clear hc
  go_enter Yba.func11, Yba.ntmps11
  go_wp2
  go_loop [30] (fun i => ∃ k : Nat, k ≤ n ∧ i = .int .i64 k) (fun i => n - (intOf i).toNat)
  case atStart => exact ⟨0, Nat.zero_le _, rfl⟩
  case round =>
    obtain ⟨k, hk, rfl⟩ := hrel
    by_cases hkj : k < n
    · have hcx := hc' k (by omega)
      have hne := hlt k hkj
      go_wp2
      go_round
      case rel => exact ⟨k + 1, by omega, by go_num⟩
      case measure => simp [intOf]; omega
    · obtain rfl : k = n := by omega
      go_wp2
      go_ret2
      exact ⟨rfl, rfl⟩
end Go.Proofs.Ybulktlo
