/-
  DERIVED. GIVEN WITH THE SEED: THE CARDS: each row of YbulkbkkwGreatDoorRows.lean that lists a variable, with what it lists TIED to the program's text (the seventh form; the later family's looks); each row that meets fmt, with fmt's text TOLD by the authors' own Lean function (tested against real Go, not proved from fmt's source: count such statements apart). THE CARD IS WHAT COUNTS. Prove the row's statement (the work); the ties are given (YbulkbkkwGreatDoorTie.lean); close each card by the builder's one call (the guide's Derived/Test/ToyasCard.lean, 'card_holds'). Laid BY PROGRAM, IN A SANDBOX (cutbox-door.mjs). By AI agents, Wed Nov 11 2026. No macro, syntax, notation, axiom, sorry.
-/
import Derived.Test.YbulkbkkwGreatDoorRows
import GoSem.ClaimSeven
namespace Go.Proofs.YbulkbkkwGreatDoor
namespace Rows

/-- THE TIED CARD OF 'barter.LawS3064CLetGo'. -/
def lawS3064CLetGoCard : Claim7 := { stood := { row := lawS3064CLetGoRow, standIns := [], harness := (true, "630bb7a1687640ce58eb7c7e1e272df818faee8baa48cdb9e609abf45eedb6c1"), looks := false }, kinds := [], alts := [], laidByText := true, laidKinds := [.data, .zero], laidTests := true, laidLooks := .later }
def LawS3064CLetGoCardSaid : Prop := Claim7.holds Ybaz.pinned (.plain (OpenSpec.ofChange lawS3064CLetGoSpec)) lawS3064CLetGoCard
end Rows
end Go.Proofs.YbulkbkkwGreatDoor
