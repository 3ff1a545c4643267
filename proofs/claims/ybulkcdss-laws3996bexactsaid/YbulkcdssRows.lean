/-
  No cell of these rows narrows 'for every input' (looked for: loops, veiled, ifaces, maps, wideKeys, modest, calm, conditions, laid).
  DERIVED. THE GIVEN ROWS OF THIS SEAT. 2 by the template 'for every input the law returns true; each argument reads behind the call as it read before'; 0 by the template 'total and deterministic' (their statements: YbulkcdssTotals.lean).
  GIVEN WITH THE SEED: the statements are not yours to turn. If you find one false, say at which input.
  Laid BY PROGRAM, IN A SANDBOX (cutbox-rows.mjs): the forced cells as the released guide's own fill.sh prints them over the translation a855bd1ebdd6d329… (all of the seat's roots in one cut). By AI agents, Wed Nov 11 2026. No macro, syntax, notation, axiom, sorry.
-/
import Derived.Test.YbulkcdssChecked
import GoSem.Claim
import GoSem.ClaimJoined
import GoSem.ClaimMapViews
import Derived.JoinedTies
import Derived.KernelRfl
namespace Go.Proofs.Ybulkcdss
/- THE CELL 'sum', in the pinned program and in every row, IS THE sha256 OF THE DUMP (.gsa) THAT YbulkcdssProg.lean LOADS. Nothing in Lean hashes anything: it is a label: what it is worth is what the hold of that sum in a sandbox is worth. -/
noncomputable def Yba.pinned : Pinned := { name := "ybulkcdss", sum := "a855bd1ebdd6d32917269853945d8818e7ad12e4084997d52ac7571cc3ffba49", checked := Yba.checked }
namespace Rows
def none {H : Type} : Left H := { results := [], args := [] }

/-- 'm3ua.LawS3996BExact': WHATEVER THE INPUT: true; the input reads as it did. -/
def lawS3996BExactSpec : ChangeSpec := { name := "lawS3996BExact", fn := fun _ => fun
  | [d1, d2, d3, d4, d5, d6, d7] => { results := [.lit (.bool true)], args := [d1, d2, d3, d4, d5, d6, d7] }
  | _ => none }
def lawS3996BExactRow : OpenClaim := { program := "ybulkcdss", sum := "a855bd1ebdd6d32917269853945d8818e7ad12e4084997d52ac7571cc3ffba49", func := "example.com/roamwire/roamwire/pkg/m3ua.LawS3996BExact", spec := "lawS3996BExact", unfollowed := true, recurses := true, apart := false }
def LawS3996BExactSaid : Prop := lawS3996BExactRow.holds Yba.pinned (OpenSpec.ofChange lawS3996BExactSpec)

/-- ITS FALSE NEIGHBOUR: 'it returns false'. Refute it at one input. -/
def lawS3996BExactWrong : ChangeSpec := { name := "lawS3996BExact", fn := fun _ => fun
  | [d1, d2, d3, d4, d5, d6, d7] => { results := [.lit (.bool false)], args := [d1, d2, d3, d4, d5, d6, d7] }
  | _ => none }
def LawS3996BExactWrongFalsely : Prop := lawS3996BExactRow.holds Yba.pinned (OpenSpec.ofChange lawS3996BExactWrong)

/-- 'm3ua.LawS3996BTopOctet': WHATEVER THE INPUT: true; the input reads as it did. -/
def lawS3996BTopOctetSpec : ChangeSpec := { name := "lawS3996BTopOctet", fn := fun _ => fun
  | [d1, d2, d3, d4, d5, d6] => { results := [.lit (.bool true)], args := [d1, d2, d3, d4, d5, d6] }
  | _ => none }
def lawS3996BTopOctetRow : OpenClaim := { program := "ybulkcdss", sum := "a855bd1ebdd6d32917269853945d8818e7ad12e4084997d52ac7571cc3ffba49", func := "example.com/roamwire/roamwire/pkg/m3ua.LawS3996BTopOctet", spec := "lawS3996BTopOctet", unfollowed := true, recurses := true, apart := false }
def LawS3996BTopOctetSaid : Prop := lawS3996BTopOctetRow.holds Yba.pinned (OpenSpec.ofChange lawS3996BTopOctetSpec)

/-- ITS FALSE NEIGHBOUR: 'it returns false'. Refute it at one input. -/
def lawS3996BTopOctetWrong : ChangeSpec := { name := "lawS3996BTopOctet", fn := fun _ => fun
  | [d1, d2, d3, d4, d5, d6] => { results := [.lit (.bool false)], args := [d1, d2, d3, d4, d5, d6] }
  | _ => none }
def LawS3996BTopOctetWrongFalsely : Prop := lawS3996BTopOctetRow.holds Yba.pinned (OpenSpec.ofChange lawS3996BTopOctetWrong)

end Rows
end Go.Proofs.Ybulkcdss
