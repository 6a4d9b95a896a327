import Derived.Test.YbulktjyDoorRows
import Derived.WalkKit
import Derived.ProofKit
import Derived.WalkSpells
import Derived.WalkLawsBesides
import Derived.BigQuiet
import Derived.Deep.QuietTactic
namespace Go.Proofs.YbulktjyDoor
open Go.RowKit

/-! ### math/bits.OnesCount64, as its text computes it -/
def o1 (x : Int) : Int := IntKind.u64.wrap (bits .and .u64 (x / 2) 6148914691236517205 + bits .and .u64 x 6148914691236517205)
def o2 (y : Int) : Int := IntKind.u64.wrap (bits .and .u64 (y / 4) 3689348814741910323 + bits .and .u64 y 3689348814741910323)
def o3 (y : Int) : Int := bits .and .u64 (IntKind.u64.wrap (y / 16 + y)) 1085102592571150095
def o4 (y : Int) : Int := IntKind.u64.wrap (y + y / 256)
def o5 (y : Int) : Int := IntKind.u64.wrap (y + y / 65536)
def o6 (y : Int) : Int := IntKind.u64.wrap (y + y / 4294967296)
def onesF (x : Int) : Int := bits .and .i64 (wrap64 (o6 (o5 (o4 (o3 (o2 (o1 x))))))) 127

theorem ones_any (x : Int) (w : World) : Calls Ybad.prog 14 #[.int .u64 x] w fun e w' => e = .returned (.int .i64 (onesF x)) ∧ w' = w := by
  go_enter Ybad.func14, Ybad.ntmps14
  go_wp2_with fail
  go_ret
  exact ⟨rfl, rfl⟩

/-! ### the sixteen characters -/
def nzl : List Nat := [33, 35, 36, 37, 38, 42, 43, 44, 45, 46, 47]
def tab : List Nat := [33, 35, 36, 37, 38, 42, 43, 44, 45, 46, 47, 97, 98, 48, 122, 63]
/-- is it noise, and which kind -/
def kB (c : Nat) : Bool := nzl.any (· == c)
def kN (c : Nat) : Nat := if kB c then nzl.findIdx (· == c) else 0

set_option maxHeartbeats 2000000 in
theorem kind_any (c : Nat) (hc : c ∈ tab) (w : World) : Calls Ybad.prog 7 #[.int .u8 (c : Int)] w fun e w' => e = .returned (.tuple #[.int .i64 (kN c : Nat), .bool (kB c)]) ∧ w' = w := by
  simp only [tab, List.mem_cons, List.not_mem_nil, or_false] at hc
  rcases hc with rfl | rfl | rfl | rfl | rfl | rfl | rfl | rfl | rfl | rfl | rfl | rfl | rfl | rfl | rfl | rfl
  all_goals
    go_enter Ybad.func7, Ybad.ntmps7
    go_wp2_with fail
    refine wp_loop_rounds 12 ?_
    iterate 12 (try (rw [rounds_succ]; go_wp2_with fail))
    go_ret2
    exact ⟨by kernel_rfl, rfl⟩

theorem mask_any (w : World) : Calls Ybad.prog 5 #[] w fun e w' => e = .returned (.int .u64 277600916209664) ∧ w' = w := by
  go_enter Ybad.func5, Ybad.ntmps5
  go_wp2_with fail
  refine wp_loop_rounds 12 ?_
  iterate 12 (rw [rounds_succ]; go_wp2_with fail)
  go_ret
  exact ⟨by kernel_rfl, rfl⟩
end Go.Proofs.YbulktjyDoor
