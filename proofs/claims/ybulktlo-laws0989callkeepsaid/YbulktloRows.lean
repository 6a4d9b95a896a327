/-
  No cell of these rows narrows 'for every input' (looked for: loops, veiled, ifaces, maps, wideKeys, modest, calm, conditions, laid).
  DERIVED. THE GIVEN ROWS OF THIS SEAT. 6 by the template 'for every input the law returns true; each argument reads behind the call as it read before'; 0 by the template 'total and deterministic' (their statements: YbulktloTotals.lean).
  GIVEN WITH THE SEED: the statements are not yours to turn. If you find one false, say at which input.
  Laid BY PROGRAM, IN A SANDBOX (cutbox-rows.mjs): the forced cells as the released guide's own fill.sh prints them over the translation 7a7f357694b7f9f8… (all of the seat's roots in one cut). By AI agents, Wed Nov 11 2026. No macro, syntax, notation, axiom, sorry.
-/
import Derived.Test.YbulktloChecked
import GoSem.Claim
import GoSem.ClaimJoined
import GoSem.ClaimMapViews
import Derived.JoinedTies
import Derived.KernelRfl
namespace Go.Proofs.Ybulktlo
/- THE CELL 'sum', in the pinned program and in every row, IS THE sha256 OF THE DUMP (.gsa) THAT YbulktloProg.lean LOADS. Nothing in Lean hashes anything: it is a label: what it is worth is what the hold of that sum in a sandbox is worth. -/
noncomputable def Yba.pinned : Pinned := { name := "ybulktlo", sum := "7a7f357694b7f9f8587d041c5107fb490e20938b8084be3b93deff405a6fa86e", checked := Yba.checked }
namespace Rows
def none {H : Type} : Left H := { results := [], args := [] }

/-- 'seen.LawS0989AExact': WHATEVER THE INPUT: true; the input reads as it did. -/
def lawS0989AExactSpec : ChangeSpec := { name := "lawS0989AExact", fn := fun _ => fun
  | [d1, d2] => { results := [.lit (.bool true)], args := [d1, d2] }
  | _ => none }
def lawS0989AExactRow : OpenClaim := { program := "ybulktlo", sum := "7a7f357694b7f9f8587d041c5107fb490e20938b8084be3b93deff405a6fa86e", func := "example.com/anteroom/anteroom/seen.LawS0989AExact", spec := "lawS0989AExact", apart := false }
def LawS0989AExactSaid : Prop := lawS0989AExactRow.holds Yba.pinned (OpenSpec.ofChange lawS0989AExactSpec)

/-- ITS FALSE NEIGHBOUR: 'it returns false'. Refute it at one input. -/
def lawS0989AExactWrong : ChangeSpec := { name := "lawS0989AExact", fn := fun _ => fun
  | [d1, d2] => { results := [.lit (.bool false)], args := [d1, d2] }
  | _ => none }
def LawS0989AExactWrongFalsely : Prop := lawS0989AExactRow.holds Yba.pinned (OpenSpec.ofChange lawS0989AExactWrong)

/-- 'seen.LawS0989ABounds': WHATEVER THE INPUT: true; the input reads as it did. -/
def lawS0989ABoundsSpec : ChangeSpec := { name := "lawS0989ABounds", fn := fun _ => fun
  | [d1, d2, d3] => { results := [.lit (.bool true)], args := [d1, d2, d3] }
  | _ => none }
def lawS0989ABoundsRow : OpenClaim := { program := "ybulktlo", sum := "7a7f357694b7f9f8587d041c5107fb490e20938b8084be3b93deff405a6fa86e", func := "example.com/anteroom/anteroom/seen.LawS0989ABounds", spec := "lawS0989ABounds", apart := false }
def LawS0989ABoundsSaid : Prop := lawS0989ABoundsRow.holds Yba.pinned (OpenSpec.ofChange lawS0989ABoundsSpec)

/-- ITS FALSE NEIGHBOUR: 'it returns false'. Refute it at one input. -/
def lawS0989ABoundsWrong : ChangeSpec := { name := "lawS0989ABounds", fn := fun _ => fun
  | [d1, d2, d3] => { results := [.lit (.bool false)], args := [d1, d2, d3] }
  | _ => none }
def LawS0989ABoundsWrongFalsely : Prop := lawS0989ABoundsRow.holds Yba.pinned (OpenSpec.ofChange lawS0989ABoundsWrong)

/-- 'executor.LawS0989BListFirst': WHATEVER THE INPUT: true; the input reads as it did. -/
def lawS0989BListFirstSpec : ChangeSpec := { name := "lawS0989BListFirst", fn := fun _ => fun
  | [d1, d2] => { results := [.lit (.bool true)], args := [d1, d2] }
  | _ => none }
def lawS0989BListFirstRow : OpenClaim := { program := "ybulktlo", sum := "7a7f357694b7f9f8587d041c5107fb490e20938b8084be3b93deff405a6fa86e", func := "example.com/anteroom/anteroom/executor.LawS0989BListFirst", spec := "lawS0989BListFirst", apart := false }
def LawS0989BListFirstSaid : Prop := lawS0989BListFirstRow.holds Yba.pinned (OpenSpec.ofChange lawS0989BListFirstSpec)

/-- ITS FALSE NEIGHBOUR: 'it returns false'. Refute it at one input. -/
def lawS0989BListFirstWrong : ChangeSpec := { name := "lawS0989BListFirst", fn := fun _ => fun
  | [d1, d2] => { results := [.lit (.bool false)], args := [d1, d2] }
  | _ => none }
def LawS0989BListFirstWrongFalsely : Prop := lawS0989BListFirstRow.holds Yba.pinned (OpenSpec.ofChange lawS0989BListFirstWrong)

/-- 'executor.LawS0989BAfterPuts': WHATEVER THE INPUT: true; the input reads as it did. -/
def lawS0989BAfterPutsSpec : ChangeSpec := { name := "lawS0989BAfterPuts", fn := fun _ => fun
  | [d1, d2, d3] => { results := [.lit (.bool true)], args := [d1, d2, d3] }
  | _ => none }
def lawS0989BAfterPutsRow : OpenClaim := { program := "ybulktlo", sum := "7a7f357694b7f9f8587d041c5107fb490e20938b8084be3b93deff405a6fa86e", func := "example.com/anteroom/anteroom/executor.LawS0989BAfterPuts", spec := "lawS0989BAfterPuts", apart := false }
def LawS0989BAfterPutsSaid : Prop := lawS0989BAfterPutsRow.holds Yba.pinned (OpenSpec.ofChange lawS0989BAfterPutsSpec)

/-- ITS FALSE NEIGHBOUR: 'it returns false'. Refute it at one input. -/
def lawS0989BAfterPutsWrong : ChangeSpec := { name := "lawS0989BAfterPuts", fn := fun _ => fun
  | [d1, d2, d3] => { results := [.lit (.bool false)], args := [d1, d2, d3] }
  | _ => none }
def LawS0989BAfterPutsWrongFalsely : Prop := lawS0989BAfterPutsRow.holds Yba.pinned (OpenSpec.ofChange lawS0989BAfterPutsWrong)

/-- 'anteroom.LawS0989CFilter': WHATEVER THE INPUT: true; the input reads as it did. -/
def lawS0989CFilterSpec : ChangeSpec := { name := "lawS0989CFilter", fn := fun _ => fun
  | [d1, d2, d3] => { results := [.lit (.bool true)], args := [d1, d2, d3] }
  | _ => none }
def lawS0989CFilterRow : OpenClaim := { program := "ybulktlo", sum := "7a7f357694b7f9f8587d041c5107fb490e20938b8084be3b93deff405a6fa86e", func := "example.com/anteroom/anteroom.LawS0989CFilter", spec := "lawS0989CFilter", unfollowed := true, recurses := true, apart := false }
def LawS0989CFilterSaid : Prop := lawS0989CFilterRow.holds Yba.pinned (OpenSpec.ofChange lawS0989CFilterSpec)

/-- ITS FALSE NEIGHBOUR: 'it returns false'. Refute it at one input. -/
def lawS0989CFilterWrong : ChangeSpec := { name := "lawS0989CFilter", fn := fun _ => fun
  | [d1, d2, d3] => { results := [.lit (.bool false)], args := [d1, d2, d3] }
  | _ => none }
def LawS0989CFilterWrongFalsely : Prop := lawS0989CFilterRow.holds Yba.pinned (OpenSpec.ofChange lawS0989CFilterWrong)

/-- 'anteroom.LawS0989CAllKeep': WHATEVER THE INPUT: true; the input reads as it did. -/
def lawS0989CAllKeepSpec : ChangeSpec := { name := "lawS0989CAllKeep", fn := fun _ => fun
  | [d1, d2] => { results := [.lit (.bool true)], args := [d1, d2] }
  | _ => none }
def lawS0989CAllKeepRow : OpenClaim := { program := "ybulktlo", sum := "7a7f357694b7f9f8587d041c5107fb490e20938b8084be3b93deff405a6fa86e", func := "example.com/anteroom/anteroom.LawS0989CAllKeep", spec := "lawS0989CAllKeep", unfollowed := true, recurses := true, apart := false }
def LawS0989CAllKeepSaid : Prop := lawS0989CAllKeepRow.holds Yba.pinned (OpenSpec.ofChange lawS0989CAllKeepSpec)

/-- ITS FALSE NEIGHBOUR: 'it returns false'. Refute it at one input. -/
def lawS0989CAllKeepWrong : ChangeSpec := { name := "lawS0989CAllKeep", fn := fun _ => fun
  | [d1, d2] => { results := [.lit (.bool false)], args := [d1, d2] }
  | _ => none }
def LawS0989CAllKeepWrongFalsely : Prop := lawS0989CAllKeepRow.holds Yba.pinned (OpenSpec.ofChange lawS0989CAllKeepWrong)

end Rows
end Go.Proofs.Ybulktlo
