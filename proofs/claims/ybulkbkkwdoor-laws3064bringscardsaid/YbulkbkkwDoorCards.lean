/-
  DERIVED. GIVEN WITH THE SEED: THE CARDS: each row of YbulkbkkwDoorRows.lean that lists a variable, with what it lists TIED to the program's text (the seventh form; the later family's looks); each row that meets fmt, with fmt's text TOLD by the authors' own Lean function (tested against real Go, not proved from fmt's source: count such statements apart). THE CARD IS WHAT COUNTS. Prove the row's statement (the work); the ties are given (YbulkbkkwDoorTie.lean); close each card by the builder's one call (the guide's Derived/Test/ToyasCard.lean, 'card_holds'). Laid BY PROGRAM, IN A SANDBOX (cutbox-door.mjs). By AI agents, Wed Nov 11 2026. No macro, syntax, notation, axiom, sorry.
-/
import Derived.Test.YbulkbkkwDoorRows
import GoSem.ClaimSeven
namespace Go.Proofs.YbulkbkkwDoor
namespace Rows

/-- THE TIED CARD OF 'barter.LawS3064BPairwise'. -/
def lawS3064BPairwiseCard : Claim7 := { stood := { row := lawS3064BPairwiseRow, standIns := [], harness := (true, "079e7ce8a8b2c0946c9406b3ea47865f7dcdc8b6c5edc306540693864d5ccb32"), looks := false }, kinds := [], alts := [], laidByText := true, laidKinds := [.zero], laidTests := true, laidLooks := .later }
def LawS3064BPairwiseCardSaid : Prop := Claim7.holds Ybad.pinned (.plain (OpenSpec.ofChange lawS3064BPairwiseSpec)) lawS3064BPairwiseCard

/-- THE TIED CARD OF 'barter.LawS3064BRings'. -/
def lawS3064BRingsCard : Claim7 := { stood := { row := lawS3064BRingsRow, standIns := [], harness := (true, "079e7ce8a8b2c0946c9406b3ea47865f7dcdc8b6c5edc306540693864d5ccb32"), looks := false }, kinds := [], alts := [], laidByText := true, laidKinds := [.zero], laidTests := true, laidLooks := .later }
def LawS3064BRingsCardSaid : Prop := Claim7.holds Ybad.pinned (.plain (OpenSpec.ofChange lawS3064BRingsSpec)) lawS3064BRingsCard
end Rows
end Go.Proofs.YbulkbkkwDoor
