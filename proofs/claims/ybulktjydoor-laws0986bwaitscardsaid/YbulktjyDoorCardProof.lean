/-
  The tied card of 'roka.LawS0986BWaits', out of the row's proof and the given tie. After the guide's worked card.
-/
import Derived.Test.YbulktjyDoorProof
import Derived.Test.YbulktjyDoorTie
import Derived.Test.YbulktjyDoorCards
import Derived.SevenTiedAt
namespace Go.Proofs.YbulktjyDoor
open Go
set_option maxRecDepth 100000

theorem lawS0986BWaits.proved : Rows.LawS0986BWaitsCardSaid :=
  Claim7.holds_tied_plain_at .later [] [.data, .data] true (true, "96bdbbdbcee738b7dfdf0ce52330d60c5e815d4a390c59e96b0fc58b5de60cc7") false
    lawS0986BWaits.holds (fun _ h => by cases h) (by kernel_rfl) (fun _ h => by cases h) lawS0986BWaits_row_tie rfl ⟨rfl, rfl⟩ (by kernel_rfl) rfl
    (fun f fn hf hfn => by
      obtain rfl : f = 3 := Option.some.inj ((show Ybad.prog.funcNamed "example.com/roka/roka.LawS0986BWaits" = some 3 by kernel_rfl).symm.trans hf) |>.symm
      obtain rfl : fn = Ybad.f3 := (Option.some.inj (Ybad.func3.symm.trans hfn)).symm
      refine ⟨by kernel_rfl, fun j t ht => ?_⟩
      rw [Ybad.params3] at ht
      have h22 : Ybad.prog.wantsStandIn 22 = false := by kernel_rfl
      have h23 : Ybad.prog.wantsStandIn 23 = false := by kernel_rfl
      have h24 : Ybad.prog.wantsStandIn 24 = false := by kernel_rfl
      have h5 : Ybad.prog.wantsStandIn 5 = false := by kernel_rfl
      have hm : t ∈ [22, 22, 23, 22, 24, 5, 5] := List.mem_of_getElem? (i := j) (by simpa using ht)
      simp only [List.mem_cons, List.not_mem_nil, or_false] at hm
      rcases hm with rfl | rfl | rfl | rfl | rfl | rfl | rfl
      · exact h22
      · exact h22
      · exact h23
      · exact h22
      · exact h24
      · exact h5
      · exact h5)
    (by kernel_rfl)
end Go.Proofs.YbulktjyDoor
