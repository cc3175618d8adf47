/-
  NARROWER THAN 'FOR EVERY INPUT', by the rows' own cells (each row's printed sentence says how): LawS3064BPairwise: laid · LawS3064BRings: laid.
  DERIVED. THE GIVEN ROWS OF THIS SEAT. 2 by the template 'for every input the law returns true; each argument reads behind the call as it read before'; 0 by the template 'total and deterministic' (their statements: YbulkbkkwDoorTotals.lean).
  GIVEN WITH THE SEED: the statements are not yours to turn. If you find one false, say at which input.
  Laid BY PROGRAM, IN A SANDBOX (cutbox-rows.mjs): the forced cells as the released guide's own fill.sh prints them over the translation b39144cef18c7c5d… (all of the seat's roots in one cut). By AI agents, Wed Nov 11 2026. No macro, syntax, notation, axiom, sorry.
-/
import Derived.Test.YbulkbkkwDoorChecked
import GoSem.Claim
import GoSem.ClaimJoined
import GoSem.ClaimMapViews
import Derived.JoinedTies
import Derived.KernelRfl
namespace Go.Proofs.YbulkbkkwDoor
/- THE CELL 'sum', in the pinned program and in every row, IS THE sha256 OF THE DUMP (.gsa) THAT YbulkbkkwDoorProg.lean LOADS. Nothing in Lean hashes anything: it is a label: what it is worth is what the hold of that sum in a sandbox is worth. -/
noncomputable def Ybad.pinned : Pinned := { name := "ybulkbkkwdoor", sum := "b39144cef18c7c5d5ac0a122782a5019d2a49f94a161a6f5539cca5ebbdfb9a2", checked := Ybad.checked }
namespace Rows
def none {H : Type} : Left H := { results := [], args := [] }

/- WHAT THE LISTED PACKAGE-LEVEL VARIABLES READ AS WHEN THE CALL BEGINS. Each datum BY PROGRAM (the guide's laid-datum.mjs) off the statement by which the dump's own 'gosem.cut.vars' lays the variable. In a bare row this is a premise. The card (YbulkbkkwDoorCards.lean) ties it to the program's text. -/
def laid_example_com_swarmbarter_swarmbarter_internal_barter_noRing {H : Type} : DataW H := .agg [.lit (.int .u8 0), .lit (.int .u8 0), .lit (.int .u8 0), .lit (.int .u8 0), .lit (.int .u8 0), .lit (.int .u8 0), .lit (.int .u8 0), .lit (.int .u8 0), .lit (.int .u8 0), .lit (.int .u8 0), .lit (.int .u8 0), .lit (.int .u8 0), .lit (.int .u8 0), .lit (.int .u8 0), .lit (.int .u8 0), .lit (.int .u8 0)]

/-- 'barter.LawS3064BPairwise': WHATEVER THE INPUT: true; the input reads as it did. -/
def lawS3064BPairwiseSpec : ChangeSpec := { name := "lawS3064BPairwise", vars := ["example.com/swarmbarter/swarmbarter/internal/barter.noRing"], fn := fun _ => fun
  | [d1, d2, d3, d4, d5, d6, d7, g1] => { results := [.lit (.bool true)], args := [d1, d2, d3, d4, d5, d6, d7], vars := [g1] }
  | _ => none }
def lawS3064BPairwiseRow : OpenClaim := { program := "ybulkbkkwdoor", sum := "b39144cef18c7c5d5ac0a122782a5019d2a49f94a161a6f5539cca5ebbdfb9a2", func := "example.com/swarmbarter/swarmbarter/internal/barter.LawS3064BPairwise", spec := "lawS3064BPairwise", unfollowed := true, recurses := true, named := ["example.com/swarmbarter/swarmbarter/internal/barter.noRing"], plainKeys := false, apart := false, laid := [("example.com/swarmbarter/swarmbarter/internal/barter.noRing", laid_example_com_swarmbarter_swarmbarter_internal_barter_noRing)] }
def LawS3064BPairwiseSaid : Prop := lawS3064BPairwiseRow.holds Ybad.pinned (OpenSpec.ofChange lawS3064BPairwiseSpec)

/-- ITS FALSE NEIGHBOUR: 'it returns false'. Refute it at one input. -/
def lawS3064BPairwiseWrong : ChangeSpec := { name := "lawS3064BPairwise", vars := ["example.com/swarmbarter/swarmbarter/internal/barter.noRing"], fn := fun _ => fun
  | [d1, d2, d3, d4, d5, d6, d7, g1] => { results := [.lit (.bool false)], args := [d1, d2, d3, d4, d5, d6, d7], vars := [g1] }
  | _ => none }
def LawS3064BPairwiseWrongFalsely : Prop := lawS3064BPairwiseRow.holds Ybad.pinned (OpenSpec.ofChange lawS3064BPairwiseWrong)

/-- 'barter.LawS3064BRings': WHATEVER THE INPUT: true; the input reads as it did. -/
def lawS3064BRingsSpec : ChangeSpec := { name := "lawS3064BRings", vars := ["example.com/swarmbarter/swarmbarter/internal/barter.noRing"], fn := fun _ => fun
  | [d1, d2, d3, d4, g1] => { results := [.lit (.bool true)], args := [d1, d2, d3, d4], vars := [g1] }
  | _ => none }
def lawS3064BRingsRow : OpenClaim := { program := "ybulkbkkwdoor", sum := "b39144cef18c7c5d5ac0a122782a5019d2a49f94a161a6f5539cca5ebbdfb9a2", func := "example.com/swarmbarter/swarmbarter/internal/barter.LawS3064BRings", spec := "lawS3064BRings", unfollowed := true, recurses := true, named := ["example.com/swarmbarter/swarmbarter/internal/barter.noRing"], plainKeys := false, apart := false, laid := [("example.com/swarmbarter/swarmbarter/internal/barter.noRing", laid_example_com_swarmbarter_swarmbarter_internal_barter_noRing)] }
def LawS3064BRingsSaid : Prop := lawS3064BRingsRow.holds Ybad.pinned (OpenSpec.ofChange lawS3064BRingsSpec)

/-- ITS FALSE NEIGHBOUR: 'it returns false'. Refute it at one input. -/
def lawS3064BRingsWrong : ChangeSpec := { name := "lawS3064BRings", vars := ["example.com/swarmbarter/swarmbarter/internal/barter.noRing"], fn := fun _ => fun
  | [d1, d2, d3, d4, g1] => { results := [.lit (.bool false)], args := [d1, d2, d3, d4], vars := [g1] }
  | _ => none }
def LawS3064BRingsWrongFalsely : Prop := lawS3064BRingsRow.holds Ybad.pinned (OpenSpec.ofChange lawS3064BRingsWrong)

end Rows
end Go.Proofs.YbulkbkkwDoor
