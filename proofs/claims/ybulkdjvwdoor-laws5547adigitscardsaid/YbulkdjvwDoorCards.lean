/-
  DERIVED. GIVEN WITH THE SEED: THE CARDS: each row of YbulkdjvwDoorRows.lean that lists a variable, with what it lists TIED to the program's text (the seventh form; the later family's looks); each row that meets fmt, with fmt's text TOLD by the authors' own Lean function (tested against real Go, not proved from fmt's source: count such statements apart). THE CARD IS WHAT COUNTS. Prove the row's statement (the work); the ties are given (YbulkdjvwDoorTie.lean); close each card by the builder's one call (the guide's Derived/Test/ToyasCard.lean, 'card_holds'). Laid BY PROGRAM, IN A SANDBOX (cutbox-door.mjs). By AI agents, Wed Nov 11 2026. No macro, syntax, notation, axiom, sorry.
-/
import Derived.Test.YbulkdjvwDoorRows
import GoSem.ClaimSeven
namespace Go.Proofs.YbulkdjvwDoor
namespace Rows

/-- THE TIED CARD OF 'jsonform.LawS5547ADigits'. -/
def lawS5547ADigitsCard : Claim7 := { stood := { row := lawS5547ADigitsRow, standIns := [], harness := (true, "9d058c3c6aed8a33025aa4f943afa81418f4e31feaeaf95dd3b25f3c8bbcc2ca"), looks := true }, kinds := [], alts := [], laidByText := true, laidKinds := [.data, .data, .data, .sentinel, .sentinel], laidTests := true, laidLooks := .later }
def LawS5547ADigitsCardSaid : Prop := Claim7.holds Ybad.pinned (.plain (OpenSpec.ofChange lawS5547ADigitsSpec)) lawS5547ADigitsCard
end Rows
end Go.Proofs.YbulkdjvwDoor
