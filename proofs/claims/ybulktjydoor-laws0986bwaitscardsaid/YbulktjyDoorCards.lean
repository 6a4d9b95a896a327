/-
  DERIVED. GIVEN WITH THE SEED: THE CARDS: each row of YbulktjyDoorRows.lean that lists a variable, with what it lists TIED to the program's text (the seventh form; the later family's looks); each row that meets fmt, with fmt's text TOLD by the authors' own Lean function (tested against real Go, not proved from fmt's source: count such statements apart). THE CARD IS WHAT COUNTS. Prove the row's statement (the work); the ties are given (YbulktjyDoorTie.lean); close each card by the builder's one call (the guide's Derived/Test/ToyasCard.lean, 'card_holds'). Laid BY PROGRAM, IN A SANDBOX (cutbox-door.mjs). By AI agents, Wed Nov 11 2026. No macro, syntax, notation, axiom, sorry.
-/
import Derived.Test.YbulktjyDoorRows
import GoSem.ClaimSeven
namespace Go.Proofs.YbulktjyDoor
namespace Rows

/-- THE TIED CARD OF 'roka.LawS0986BWaits'. -/
def lawS0986BWaitsCard : Claim7 := { stood := { row := lawS0986BWaitsRow, standIns := [], harness := (true, "96bdbbdbcee738b7dfdf0ce52330d60c5e815d4a390c59e96b0fc58b5de60cc7"), looks := false }, kinds := [], alts := [], laidByText := true, laidKinds := [.data, .data], laidTests := true, laidLooks := .later }
def LawS0986BWaitsCardSaid : Prop := Claim7.holds Ybad.pinned (.plain (OpenSpec.ofChange lawS0986BWaitsSpec)) lawS0986BWaitsCard
end Rows
end Go.Proofs.YbulktjyDoor
