/-
  No cell of these rows narrows 'for every input' (looked for: loops, veiled, ifaces, maps, wideKeys, modest, calm, conditions, laid).
  DERIVED. THE GIVEN ROWS OF THIS SEAT. 2 by the template 'for every input the law returns true; each argument reads behind the call as it read before'; 0 by the template 'total and deterministic' (their statements: YbulktjyTotals.lean).
  GIVEN WITH THE SEED: the statements are not yours to turn. If you find one false, say at which input.
  Laid BY PROGRAM, IN A SANDBOX (cutbox-rows.mjs): the forced cells as the released guide's own fill.sh prints them over the translation 5f4895d32dbaa7e8… (all of the seat's roots in one cut). By AI agents, Wed Nov 11 2026. No macro, syntax, notation, axiom, sorry.
-/
import Derived.Test.YbulktjyChecked
import GoSem.Claim
import GoSem.ClaimJoined
import GoSem.ClaimMapViews
import Derived.JoinedTies
import Derived.KernelRfl
namespace Go.Proofs.Ybulktjy
/- THE CELL 'sum', in the pinned program and in every row, IS THE sha256 OF THE DUMP (.gsa) THAT YbulktjyProg.lean LOADS. Nothing in Lean hashes anything: it is a label: what it is worth is what the hold of that sum in a sandbox is worth. -/
noncomputable def Yba.pinned : Pinned := { name := "ybulktjy", sum := "5f4895d32dbaa7e87587dbb9021b7d035ce53270fb93100fafecbace7d984078", checked := Yba.checked }
namespace Rows
def none {H : Type} : Left H := { results := [], args := [] }

/-- 'roka.LawS0986CReading': WHATEVER THE INPUT: true; the input reads as it did. -/
def lawS0986CReadingSpec : ChangeSpec := { name := "lawS0986CReading", fn := fun _ => fun
  | [d1, d2, d3, d4, d5] => { results := [.lit (.bool true)], args := [d1, d2, d3, d4, d5] }
  | _ => none }
def lawS0986CReadingRow : OpenClaim := { program := "ybulktjy", sum := "5f4895d32dbaa7e87587dbb9021b7d035ce53270fb93100fafecbace7d984078", func := "example.com/roka/roka.LawS0986CReading", spec := "lawS0986CReading", apart := false }
def LawS0986CReadingSaid : Prop := lawS0986CReadingRow.holds Yba.pinned (OpenSpec.ofChange lawS0986CReadingSpec)

/-- ITS FALSE NEIGHBOUR: 'it returns false'. Refute it at one input. -/
def lawS0986CReadingWrong : ChangeSpec := { name := "lawS0986CReading", fn := fun _ => fun
  | [d1, d2, d3, d4, d5] => { results := [.lit (.bool false)], args := [d1, d2, d3, d4, d5] }
  | _ => none }
def LawS0986CReadingWrongFalsely : Prop := lawS0986CReadingRow.holds Yba.pinned (OpenSpec.ofChange lawS0986CReadingWrong)

/-- 'roka.LawS0986CKeep': WHATEVER THE INPUT: true; the input reads as it did. -/
def lawS0986CKeepSpec : ChangeSpec := { name := "lawS0986CKeep", fn := fun _ => fun
  | [d1, d2, d3] => { results := [.lit (.bool true)], args := [d1, d2, d3] }
  | _ => none }
def lawS0986CKeepRow : OpenClaim := { program := "ybulktjy", sum := "5f4895d32dbaa7e87587dbb9021b7d035ce53270fb93100fafecbace7d984078", func := "example.com/roka/roka.LawS0986CKeep", spec := "lawS0986CKeep", apart := false }
def LawS0986CKeepSaid : Prop := lawS0986CKeepRow.holds Yba.pinned (OpenSpec.ofChange lawS0986CKeepSpec)

/-- ITS FALSE NEIGHBOUR: 'it returns false'. Refute it at one input. -/
def lawS0986CKeepWrong : ChangeSpec := { name := "lawS0986CKeep", fn := fun _ => fun
  | [d1, d2, d3] => { results := [.lit (.bool false)], args := [d1, d2, d3] }
  | _ => none }
def LawS0986CKeepWrongFalsely : Prop := lawS0986CKeepRow.holds Yba.pinned (OpenSpec.ofChange lawS0986CKeepWrong)

end Rows
end Go.Proofs.Ybulktjy
