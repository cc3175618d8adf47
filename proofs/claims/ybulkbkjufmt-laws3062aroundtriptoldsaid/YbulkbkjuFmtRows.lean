/-
  NARROWER THAN 'FOR EVERY INPUT', by the rows' own cells (each row's printed sentence says how): LawS3062ARoundTrip: ifaces, laid.
  DERIVED. THE GIVEN ROWS OF THIS SEAT. 1 by the template 'for every input the law returns true; each argument reads behind the call as it read before'; 0 by the template 'total and deterministic' (their statements: YbulkbkjuFmtTotals.lean).
  GIVEN WITH THE SEED: the statements are not yours to turn. If you find one false, say at which input.
  Laid BY PROGRAM, IN A SANDBOX (cutbox-rows.mjs): the forced cells as the released guide's own fill.sh prints them over the translation ca1570b89fd51c60… (all of the seat's roots in one cut). By AI agents, Wed Nov 11 2026. No macro, syntax, notation, axiom, sorry.
-/
import Derived.Test.YbulkbkjuFmtChecked
import GoSem.Claim
import GoSem.ClaimJoined
import GoSem.ClaimMapViews
import Derived.JoinedTies
import Derived.KernelRfl
namespace Go.Proofs.YbulkbkjuFmt
/- THE CELL 'sum', in the pinned program and in every row, IS THE sha256 OF THE DUMP (.gsa) THAT YbulkbkjuFmtProg.lean LOADS. Nothing in Lean hashes anything: it is a label: what it is worth is what the hold of that sum in a sandbox is worth. -/
noncomputable def Ybaf.pinned : Pinned := { name := "ybulkbkjufmt", sum := "ca1570b89fd51c6004827549f982190d6afdf2df63a6d4c899ae1f699667256a", checked := Ybaf.checked }
namespace Rows
def none {H : Type} : Left H := { results := [], args := [] }

/- WHAT THE LISTED PACKAGE-LEVEL VARIABLES READ AS WHEN THE CALL BEGINS. Each datum BY PROGRAM (the guide's laid-datum.mjs) off the statement by which the dump's own 'gosem.cut.vars' lays the variable. In a bare row this is a premise. The card (YbulkbkjuFmtCards.lean) ties it to the program's text. -/
def laid_example_com_hangar_ledger_hangar_ledger_internal_decimal_errNotBinary {H : Type} : DataW H := .iface "*errors.errorString" (.ptr (.agg [.lit (.string [110, 111, 116, 32, 116, 104, 101, 32, 99, 111, 109, 112, 97, 99, 116, 32, 102, 111, 114, 109, 32, 111, 102, 32, 97, 32, 110, 117, 109, 98, 101, 114])]))

/-- 'decimal.LawS3062ARoundTrip': WHATEVER THE INPUT: true; the input reads as it did. -/
def lawS3062ARoundTripSpec : ChangeSpec := { name := "lawS3062ARoundTrip", vars := ["example.com/hangar-ledger/hangar-ledger/internal/decimal.errNotBinary"], fn := fun _ => fun
  | [d1, d2, d3, g1] => { results := [.lit (.bool true)], args := [d1, d2, d3], vars := [g1] }
  | _ => none }
def lawS3062ARoundTripRow : OpenClaim := { program := "ybulkbkjufmt", sum := "ca1570b89fd51c6004827549f982190d6afdf2df63a6d4c899ae1f699667256a", func := "example.com/hangar-ledger/hangar-ledger/internal/decimal.LawS3062ARoundTrip", spec := "lawS3062ARoundTrip", stops := ["fmt.Sprintf", "fmt.errorf"], inPlace := ["fmt.Sprintf", "fmt.errorf"], named := ["example.com/hangar-ledger/hangar-ledger/internal/decimal.errNotBinary"], ifaces := true, apart := false, laid := [("example.com/hangar-ledger/hangar-ledger/internal/decimal.errNotBinary", laid_example_com_hangar_ledger_hangar_ledger_internal_decimal_errNotBinary)] }
/-- NO THEOREM (fmt's text is open here; it may be false): for the released tool's asking of the row's closed facts alone. THE STATEMENT IS 'LawS3062ARoundTripToldSaid' (YbulkbkjuFmtCards.lean). -/
def LawS3062ARoundTripFormAsk : Prop := lawS3062ARoundTripRow.holds Ybaf.pinned (OpenSpec.ofChange lawS3062ARoundTripSpec)

/-- ITS FALSE NEIGHBOUR: 'it returns false'. Refute it at one input. -/
def lawS3062ARoundTripWrong : ChangeSpec := { name := "lawS3062ARoundTrip", vars := ["example.com/hangar-ledger/hangar-ledger/internal/decimal.errNotBinary"], fn := fun _ => fun
  | [d1, d2, d3, g1] => { results := [.lit (.bool false)], args := [d1, d2, d3], vars := [g1] }
  | _ => none }
def LawS3062ARoundTripWrongFormAsk : Prop := lawS3062ARoundTripRow.holds Ybaf.pinned (OpenSpec.ofChange lawS3062ARoundTripWrong)

end Rows
end Go.Proofs.YbulkbkjuFmt
