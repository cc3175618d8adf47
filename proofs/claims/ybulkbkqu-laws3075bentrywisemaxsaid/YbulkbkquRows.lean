/-
  No cell of these rows narrows 'for every input' (looked for: loops, veiled, ifaces, maps, wideKeys, modest, calm, conditions, laid).
  DERIVED. THE GIVEN ROWS OF THIS SEAT. 2 by the template 'for every input the law returns true; each argument reads behind the call as it read before'; 0 by the template 'total and deterministic' (their statements: YbulkbkquTotals.lean).
  GIVEN WITH THE SEED: the statements are not yours to turn. If you find one false, say at which input.
  Laid BY PROGRAM, IN A SANDBOX (cutbox-rows.mjs): the forced cells as the released guide's own fill.sh prints them over the translation adac2f97a02f6f39… (all of the seat's roots in one cut). By AI agents, Wed Nov 11 2026. No macro, syntax, notation, axiom, sorry.
-/
import Derived.Test.YbulkbkquChecked
import GoSem.Claim
import GoSem.ClaimJoined
import GoSem.ClaimMapViews
import Derived.JoinedTies
import Derived.KernelRfl
namespace Go.Proofs.Ybulkbkqu
/- THE CELL 'sum', in the pinned program and in every row, IS THE sha256 OF THE DUMP (.gsa) THAT YbulkbkquProg.lean LOADS. Nothing in Lean hashes anything: it is a label: what it is worth is what the hold of that sum in a sandbox is worth. -/
noncomputable def Yba.pinned : Pinned := { name := "ybulkbkqu", sum := "adac2f97a02f6f395b58cbbe92dd4104b307a9868f530c67f091a736c5ee6118", checked := Yba.checked }
namespace Rows
def none {H : Type} : Left H := { results := [], args := [] }

/-- 'causeline.LawS3075BEntrywiseMax': WHATEVER THE INPUT: true; the input reads as it did. -/
def lawS3075BEntrywiseMaxSpec : ChangeSpec := { name := "lawS3075BEntrywiseMax", fn := fun _ => fun
  | [d1, d2] => { results := [.lit (.bool true)], args := [d1, d2] }
  | _ => none }
def lawS3075BEntrywiseMaxRow : OpenClaim := { program := "ybulkbkqu", sum := "adac2f97a02f6f395b58cbbe92dd4104b307a9868f530c67f091a736c5ee6118", func := "example.com/causeline/causeline.LawS3075BEntrywiseMax", spec := "lawS3075BEntrywiseMax", apart := false }
def LawS3075BEntrywiseMaxSaid : Prop := lawS3075BEntrywiseMaxRow.holds Yba.pinned (OpenSpec.ofChange lawS3075BEntrywiseMaxSpec)

/-- ITS FALSE NEIGHBOUR: 'it returns false'. Refute it at one input. -/
def lawS3075BEntrywiseMaxWrong : ChangeSpec := { name := "lawS3075BEntrywiseMax", fn := fun _ => fun
  | [d1, d2] => { results := [.lit (.bool false)], args := [d1, d2] }
  | _ => none }
def LawS3075BEntrywiseMaxWrongFalsely : Prop := lawS3075BEntrywiseMaxRow.holds Yba.pinned (OpenSpec.ofChange lawS3075BEntrywiseMaxWrong)

/-- 'causeline.LawS3075BUpperBound': WHATEVER THE INPUT: true; the input reads as it did. -/
def lawS3075BUpperBoundSpec : ChangeSpec := { name := "lawS3075BUpperBound", fn := fun _ => fun
  | [d1, d2] => { results := [.lit (.bool true)], args := [d1, d2] }
  | _ => none }
def lawS3075BUpperBoundRow : OpenClaim := { program := "ybulkbkqu", sum := "adac2f97a02f6f395b58cbbe92dd4104b307a9868f530c67f091a736c5ee6118", func := "example.com/causeline/causeline.LawS3075BUpperBound", spec := "lawS3075BUpperBound", apart := false }
def LawS3075BUpperBoundSaid : Prop := lawS3075BUpperBoundRow.holds Yba.pinned (OpenSpec.ofChange lawS3075BUpperBoundSpec)

/-- ITS FALSE NEIGHBOUR: 'it returns false'. Refute it at one input. -/
def lawS3075BUpperBoundWrong : ChangeSpec := { name := "lawS3075BUpperBound", fn := fun _ => fun
  | [d1, d2] => { results := [.lit (.bool false)], args := [d1, d2] }
  | _ => none }
def LawS3075BUpperBoundWrongFalsely : Prop := lawS3075BUpperBoundRow.holds Yba.pinned (OpenSpec.ofChange lawS3075BUpperBoundWrong)

end Rows
end Go.Proofs.Ybulkbkqu
