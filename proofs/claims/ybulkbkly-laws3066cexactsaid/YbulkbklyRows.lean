/-
  No cell of these rows narrows 'for every input' (looked for: loops, veiled, ifaces, maps, wideKeys, modest, calm, conditions, laid).
  DERIVED. THE GIVEN ROWS OF THIS SEAT. 2 by the template 'for every input the law returns true; each argument reads behind the call as it read before'; 0 by the template 'total and deterministic' (their statements: YbulkbklyTotals.lean).
  GIVEN WITH THE SEED: the statements are not yours to turn. If you find one false, say at which input.
  Laid BY PROGRAM, IN A SANDBOX (cutbox-rows.mjs): the forced cells as the released guide's own fill.sh prints them over the translation 6559642ebe53d55f… (all of the seat's roots in one cut). By AI agents, Wed Nov 11 2026. No macro, syntax, notation, axiom, sorry.
-/
import Derived.Test.YbulkbklyChecked
import GoSem.Claim
import GoSem.ClaimJoined
import GoSem.ClaimMapViews
import Derived.JoinedTies
import Derived.KernelRfl
namespace Go.Proofs.Ybulkbkly
/- THE CELL 'sum', in the pinned program and in every row, IS THE sha256 OF THE DUMP (.gsa) THAT YbulkbklyProg.lean LOADS. Nothing in Lean hashes anything: it is a label: what it is worth is what the hold of that sum in a sandbox is worth. -/
noncomputable def Yba.pinned : Pinned := { name := "ybulkbkly", sum := "6559642ebe53d55fd3f399db2d9fe744bd8b0313699b7b0b6cd552fce40d6c76", checked := Yba.checked }
namespace Rows
def none {H : Type} : Left H := { results := [], args := [] }

/-- 'codepage.LawS3066CExact': WHATEVER THE INPUT: true; the input reads as it did. -/
def lawS3066CExactSpec : ChangeSpec := { name := "lawS3066CExact", fn := fun _ => fun
  | [d] => { results := [.lit (.bool true)], args := [d] }
  | _ => none }
def lawS3066CExactRow : OpenClaim := { program := "ybulkbkly", sum := "6559642ebe53d55fd3f399db2d9fe744bd8b0313699b7b0b6cd552fce40d6c76", func := "example.com/ashlar/ashlar/internal/codepage.LawS3066CExact", spec := "lawS3066CExact", apart := false }
def LawS3066CExactSaid : Prop := lawS3066CExactRow.holds Yba.pinned (OpenSpec.ofChange lawS3066CExactSpec)

/-- ITS FALSE NEIGHBOUR: 'it returns false'. Refute it at one input. -/
def lawS3066CExactWrong : ChangeSpec := { name := "lawS3066CExact", fn := fun _ => fun
  | [d] => { results := [.lit (.bool false)], args := [d] }
  | _ => none }
def LawS3066CExactWrongFalsely : Prop := lawS3066CExactRow.holds Yba.pinned (OpenSpec.ofChange lawS3066CExactWrong)

/-- 'codepage.LawS3066CLowRange': WHATEVER THE INPUT: true; the input reads as it did. -/
def lawS3066CLowRangeSpec : ChangeSpec := { name := "lawS3066CLowRange", fn := fun _ => fun
  | [d] => { results := [.lit (.bool true)], args := [d] }
  | _ => none }
def lawS3066CLowRangeRow : OpenClaim := { program := "ybulkbkly", sum := "6559642ebe53d55fd3f399db2d9fe744bd8b0313699b7b0b6cd552fce40d6c76", func := "example.com/ashlar/ashlar/internal/codepage.LawS3066CLowRange", spec := "lawS3066CLowRange", apart := false }
def LawS3066CLowRangeSaid : Prop := lawS3066CLowRangeRow.holds Yba.pinned (OpenSpec.ofChange lawS3066CLowRangeSpec)

/-- ITS FALSE NEIGHBOUR: 'it returns false'. Refute it at one input. -/
def lawS3066CLowRangeWrong : ChangeSpec := { name := "lawS3066CLowRange", fn := fun _ => fun
  | [d] => { results := [.lit (.bool false)], args := [d] }
  | _ => none }
def LawS3066CLowRangeWrongFalsely : Prop := lawS3066CLowRangeRow.holds Yba.pinned (OpenSpec.ofChange lawS3066CLowRangeWrong)

end Rows
end Go.Proofs.Ybulkbkly
