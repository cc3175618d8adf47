/-
  DERIVED. GIVEN WITH THE SEED: THE CARDS: each row of YbulkbkjuFmtRows.lean that lists a variable, with what it lists TIED to the program's text (the seventh form; the later family's looks); each row that meets fmt, with fmt's text TOLD by the authors' own Lean function (tested against real Go, not proved from fmt's source: count such statements apart). THE CARD IS WHAT COUNTS. Prove the row's statement (the work); the ties are given (YbulkbkjuFmtTie.lean); close each card by the builder's one call (the guide's Derived/Test/ToyasCard.lean, 'card_holds'). Laid BY PROGRAM, IN A SANDBOX (cutbox-door.mjs). By AI agents, Wed Nov 11 2026. No macro, syntax, notation, axiom, sorry.
-/
import Derived.Test.YbulkbkjuFmtRows
import GoSem.ClaimSeven
namespace Go.Proofs.YbulkbkjuFmt
namespace Rows

/-- THE TOLD AND TIED CARD OF 'decimal.LawS3062ARoundTrip'. -/
def lawS3062ARoundTripCard : Claim7 := { stood := { row := lawS3062ARoundTripRow, standIns := [], harness := (true, "1692cad6fbcd9db4c419109b31a6007b2ce2fc5ade723cc9a8b6e16bd2b3234d"), looks := false }, told := true, laidByText := true, laidKinds := [.sentinel], laidTests := true, laidLooks := .later, goes := false }
def LawS3062ARoundTripToldSaid : Prop := Claim7.holds Ybaf.pinned (.plain (OpenSpec.ofChange lawS3062ARoundTripSpec)) lawS3062ARoundTripCard
/-- ITS FALSE NEIGHBOUR. Refute it at one input. -/
def LawS3062ARoundTripToldWrongFalsely : Prop := Claim7.holds Ybaf.pinned (.plain (OpenSpec.ofChange lawS3062ARoundTripWrong)) lawS3062ARoundTripCard
end Rows
end Go.Proofs.YbulkbkjuFmt
