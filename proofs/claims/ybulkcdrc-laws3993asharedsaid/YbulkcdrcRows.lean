/-
  No cell of these rows narrows 'for every input' (looked for: loops, veiled, ifaces, maps, wideKeys, modest, calm, conditions, laid).
  DERIVED. THE GIVEN ROWS OF THIS SEAT. 2 by the template 'for every input the law returns true; each argument reads behind the call as it read before'; 0 by the template 'total and deterministic' (their statements: YbulkcdrcTotals.lean).
  GIVEN WITH THE SEED: the statements are not yours to turn. If you find one false, say at which input.
  Laid BY PROGRAM, IN A SANDBOX (cutbox-rows.mjs): the forced cells as the released guide's own fill.sh prints them over the translation 23d537567691f876… (all of the seat's roots in one cut). By AI agents, Wed Nov 11 2026. No macro, syntax, notation, axiom, sorry.
-/
import Derived.Test.YbulkcdrcChecked
import GoSem.Claim
import GoSem.ClaimJoined
import GoSem.ClaimMapViews
import Derived.JoinedTies
import Derived.KernelRfl
namespace Go.Proofs.Ybulkcdrc
/- THE CELL 'sum', in the pinned program and in every row, IS THE sha256 OF THE DUMP (.gsa) THAT YbulkcdrcProg.lean LOADS. Nothing in Lean hashes anything: it is a label: what it is worth is what the hold of that sum in a sandbox is worth. -/
noncomputable def Yba.pinned : Pinned := { name := "ybulkcdrc", sum := "23d537567691f8763c715f83ff0cc46932c6f11b2f650aaa8c5c02c1e670d1c5", checked := Yba.checked }
namespace Rows
def none {H : Type} : Left H := { results := [], args := [] }

/-- 'castwright.LawS3993AExact': WHATEVER THE INPUT: true; the input reads as it did. -/
def lawS3993AExactSpec : ChangeSpec := { name := "lawS3993AExact", fn := fun _ => fun
  | [d] => { results := [.lit (.bool true)], args := [d] }
  | _ => none }
def lawS3993AExactRow : OpenClaim := { program := "ybulkcdrc", sum := "23d537567691f8763c715f83ff0cc46932c6f11b2f650aaa8c5c02c1e670d1c5", func := "example.com/castwright/castwright.LawS3993AExact", spec := "lawS3993AExact", apart := false }
def LawS3993AExactSaid : Prop := lawS3993AExactRow.holds Yba.pinned (OpenSpec.ofChange lawS3993AExactSpec)

/-- ITS FALSE NEIGHBOUR: 'it returns false'. Refute it at one input. -/
def lawS3993AExactWrong : ChangeSpec := { name := "lawS3993AExact", fn := fun _ => fun
  | [d] => { results := [.lit (.bool false)], args := [d] }
  | _ => none }
def LawS3993AExactWrongFalsely : Prop := lawS3993AExactRow.holds Yba.pinned (OpenSpec.ofChange lawS3993AExactWrong)

/-- 'castwright.LawS3993AShared': WHATEVER THE INPUT: true; the input reads as it did. -/
def lawS3993ASharedSpec : ChangeSpec := { name := "lawS3993AShared", fn := fun _ => fun
  | [d1, d2] => { results := [.lit (.bool true)], args := [d1, d2] }
  | _ => none }
def lawS3993ASharedRow : OpenClaim := { program := "ybulkcdrc", sum := "23d537567691f8763c715f83ff0cc46932c6f11b2f650aaa8c5c02c1e670d1c5", func := "example.com/castwright/castwright.LawS3993AShared", spec := "lawS3993AShared", apart := false }
def LawS3993ASharedSaid : Prop := lawS3993ASharedRow.holds Yba.pinned (OpenSpec.ofChange lawS3993ASharedSpec)

/-- ITS FALSE NEIGHBOUR: 'it returns false'. Refute it at one input. -/
def lawS3993ASharedWrong : ChangeSpec := { name := "lawS3993AShared", fn := fun _ => fun
  | [d1, d2] => { results := [.lit (.bool false)], args := [d1, d2] }
  | _ => none }
def LawS3993ASharedWrongFalsely : Prop := lawS3993ASharedRow.holds Yba.pinned (OpenSpec.ofChange lawS3993ASharedWrong)

end Rows
end Go.Proofs.Ybulkcdrc
