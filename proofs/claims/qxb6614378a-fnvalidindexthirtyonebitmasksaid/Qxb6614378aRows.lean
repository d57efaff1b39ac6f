/-
  No cell of these rows narrows 'for every input' (looked for: loops, veiled, ifaces, maps, wideKeys, modest, calm, conditions, laid).
  DERIVED. THE GIVEN ROWS OF THIS SEAT. 2 by the template 'for every input the law returns true; each argument reads behind the call as it read before'; 0 by the template 'total and deterministic' (their statements: Qxb6614378aTotals.lean).
  GIVEN WITH THE SEED: the statements are not yours to turn. If you find one false, say at which input.
  Laid BY PROGRAM, IN A SANDBOX (cutbox-rows.mjs): the forced cells as the released guide's own fill.sh prints them over the translation 1705599f127fd2cc… (all of the seat's roots in one cut). By AI agents, Wed Nov 11 2026. No macro, syntax, notation, axiom, sorry.
-/
import Derived.Test.Qxb6614378aChecked
import GoSem.Claim
import GoSem.ClaimJoined
import GoSem.ClaimMapViews
import Derived.JoinedTies
import Derived.KernelRfl
namespace Go.Proofs.Qxb6614378a
/- THE CELL 'sum', in the pinned program and in every row, IS THE sha256 OF THE DUMP (.gsa) THAT Qxb6614378aProg.lean LOADS. Nothing in Lean hashes anything: it is a label: what it is worth is what the hold of that sum in a sandbox is worth. -/
noncomputable def Try.pinned : Pinned := { name := "qxb6614378a", sum := "1705599f127fd2cc99856692ac6a656006c1767c9985906e4ee078d0882a02d7", checked := Try.checked }
namespace Rows
def none {H : Type} : Left H := { results := [], args := [] }

/-- 'zzlaws_internal_entity_b1.FnValidIndexNegationPairFitsInt32': WHATEVER THE INPUT: true; the input reads as it did. -/
def fnValidIndexNegationPairFitsInt32Spec : ChangeSpec := { name := "fnValidIndexNegationPairFitsInt32", fn := fun _ => fun
  | [d] => { results := [.lit (.bool true)], args := [d] }
  | _ => none }
def fnValidIndexNegationPairFitsInt32Row : OpenClaim := { program := "qxb6614378a", sum := "1705599f127fd2cc99856692ac6a656006c1767c9985906e4ee078d0882a02d7", func := "example.com/chassiscope/chassiscope/zzlaws_internal_entity_b1.FnValidIndexNegationPairFitsInt32", spec := "fnValidIndexNegationPairFitsInt32", apart := false }
def FnValidIndexNegationPairFitsInt32Said : Prop := fnValidIndexNegationPairFitsInt32Row.holds Try.pinned (OpenSpec.ofChange fnValidIndexNegationPairFitsInt32Spec)

/-- ITS FALSE NEIGHBOUR: 'it returns false'. Refute it at one input. -/
def fnValidIndexNegationPairFitsInt32Wrong : ChangeSpec := { name := "fnValidIndexNegationPairFitsInt32", fn := fun _ => fun
  | [d] => { results := [.lit (.bool false)], args := [d] }
  | _ => none }
def FnValidIndexNegationPairFitsInt32WrongFalsely : Prop := fnValidIndexNegationPairFitsInt32Row.holds Try.pinned (OpenSpec.ofChange fnValidIndexNegationPairFitsInt32Wrong)

/-- 'zzlaws_internal_entity_b1.FnValidIndexThirtyOneBitMask': WHATEVER THE INPUT: true; the input reads as it did. -/
def fnValidIndexThirtyOneBitMaskSpec : ChangeSpec := { name := "fnValidIndexThirtyOneBitMask", fn := fun _ => fun
  | [d] => { results := [.lit (.bool true)], args := [d] }
  | _ => none }
def fnValidIndexThirtyOneBitMaskRow : OpenClaim := { program := "qxb6614378a", sum := "1705599f127fd2cc99856692ac6a656006c1767c9985906e4ee078d0882a02d7", func := "example.com/chassiscope/chassiscope/zzlaws_internal_entity_b1.FnValidIndexThirtyOneBitMask", spec := "fnValidIndexThirtyOneBitMask", apart := false }
def FnValidIndexThirtyOneBitMaskSaid : Prop := fnValidIndexThirtyOneBitMaskRow.holds Try.pinned (OpenSpec.ofChange fnValidIndexThirtyOneBitMaskSpec)

/-- ITS FALSE NEIGHBOUR: 'it returns false'. Refute it at one input. -/
def fnValidIndexThirtyOneBitMaskWrong : ChangeSpec := { name := "fnValidIndexThirtyOneBitMask", fn := fun _ => fun
  | [d] => { results := [.lit (.bool false)], args := [d] }
  | _ => none }
def FnValidIndexThirtyOneBitMaskWrongFalsely : Prop := fnValidIndexThirtyOneBitMaskRow.holds Try.pinned (OpenSpec.ofChange fnValidIndexThirtyOneBitMaskWrong)

end Rows
end Go.Proofs.Qxb6614378a
