/-
  No cell of these rows narrows 'for every input' (looked for: loops, veiled, ifaces, maps, wideKeys, modest, calm, conditions, laid).
  DERIVED. THE GIVEN ROWS OF THIS SEAT. 1 by the template 'for every input the law returns true; each argument reads behind the call as it read before'; 0 by the template 'total and deterministic' (their statements: YbulkbkjuTotals.lean).
  GIVEN WITH THE SEED: the statements are not yours to turn. If you find one false, say at which input.
  Laid BY PROGRAM, IN A SANDBOX (cutbox-rows.mjs): the forced cells as the released guide's own fill.sh prints them over the translation 57e99b679fbcc431… (all of the seat's roots in one cut). By AI agents, Wed Nov 11 2026. No macro, syntax, notation, axiom, sorry.
-/
import Derived.Test.YbulkbkjuChecked
import GoSem.Claim
import GoSem.ClaimJoined
import GoSem.ClaimMapViews
import Derived.JoinedTies
import Derived.KernelRfl
namespace Go.Proofs.Ybulkbkju
/- THE CELL 'sum', in the pinned program and in every row, IS THE sha256 OF THE DUMP (.gsa) THAT YbulkbkjuProg.lean LOADS. Nothing in Lean hashes anything: it is a label: what it is worth is what the hold of that sum in a sandbox is worth. -/
noncomputable def Yba.pinned : Pinned := { name := "ybulkbkju", sum := "57e99b679fbcc431bc75c99ad472526279c03a7dbdf7d8e1df394cf381a00880", checked := Yba.checked }
namespace Rows
def none {H : Type} : Left H := { results := [], args := [] }

/-- 'decimal.LawS3062AExact': WHATEVER THE INPUT: true; the input reads as it did. -/
def lawS3062AExactSpec : ChangeSpec := { name := "lawS3062AExact", fn := fun _ => fun
  | [d1, d2, d3] => { results := [.lit (.bool true)], args := [d1, d2, d3] }
  | _ => none }
def lawS3062AExactRow : OpenClaim := { program := "ybulkbkju", sum := "57e99b679fbcc431bc75c99ad472526279c03a7dbdf7d8e1df394cf381a00880", func := "example.com/hangar-ledger/hangar-ledger/internal/decimal.LawS3062AExact", spec := "lawS3062AExact", apart := false }
def LawS3062AExactSaid : Prop := lawS3062AExactRow.holds Yba.pinned (OpenSpec.ofChange lawS3062AExactSpec)

/-- ITS FALSE NEIGHBOUR: 'it returns false'. Refute it at one input. -/
def lawS3062AExactWrong : ChangeSpec := { name := "lawS3062AExact", fn := fun _ => fun
  | [d1, d2, d3] => { results := [.lit (.bool false)], args := [d1, d2, d3] }
  | _ => none }
def LawS3062AExactWrongFalsely : Prop := lawS3062AExactRow.holds Yba.pinned (OpenSpec.ofChange lawS3062AExactWrong)

end Rows
end Go.Proofs.Ybulkbkju
