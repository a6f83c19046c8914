/-
  DERIVED. GIVEN WITH THE SEED: THE CARDS: each row of YbulktckDoorRows.lean that lists a variable, with what it lists TIED to the program's text (the seventh form; the later family's looks); each row that meets fmt, with fmt's text TOLD by the authors' own Lean function (tested against real Go, not proved from fmt's source: count such statements apart). THE CARD IS WHAT COUNTS. Prove the row's statement (the work); the ties are given (YbulktckDoorTie.lean); close each card by the builder's one call (the guide's Derived/Test/ToyasCard.lean, 'card_holds'). Laid BY PROGRAM, IN A SANDBOX (cutbox-door.mjs). By AI agents, Wed Nov 11 2026. No macro, syntax, notation, axiom, sorry.
-/
import Derived.Test.YbulktckDoorRows
import GoSem.ClaimSeven
namespace Go.Proofs.YbulktckDoor
namespace Rows

/-- THE TIED CARD OF 'protect.LawS0972CFirstMatch'. -/
def lawS0972CFirstMatchCard : Claim7 := { stood := { row := lawS0972CFirstMatchRow, standIns := [], harness := (true, "3df3d5b9f1bee58d111d2cdf2260d0c9a4b1cabd69e374bdeb7a8a03eed40faf"), looks := false }, kinds := [], alts := [], laidByText := true, laidKinds := [.called, .called, .zero], laidTests := true, laidLooks := .later }
def LawS0972CFirstMatchCardSaid : Prop := Claim7.holds Ybad.pinned (.plain (OpenSpec.ofChange lawS0972CFirstMatchSpec)) lawS0972CFirstMatchCard
end Rows
end Go.Proofs.YbulktckDoor
