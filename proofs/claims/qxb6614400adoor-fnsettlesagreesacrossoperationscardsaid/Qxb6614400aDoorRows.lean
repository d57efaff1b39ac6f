/-
  NARROWER THAN 'FOR EVERY INPUT', by the rows' own cells (each row's printed sentence says how): FnSettlesAgreesAcrossOperations: laid.
  DERIVED. THE GIVEN ROWS OF THIS SEAT. 1 by the template 'for every input the law returns true; each argument reads behind the call as it read before'; 0 by the template 'total and deterministic' (their statements: Qxb6614400aDoorTotals.lean).
  GIVEN WITH THE SEED: the statements are not yours to turn. If you find one false, say at which input.
  Laid BY PROGRAM, IN A SANDBOX (cutbox-rows.mjs): the forced cells as the released guide's own fill.sh prints them over the translation e9f3dff45bb3a952… (all of the seat's roots in one cut). By AI agents, Wed Nov 11 2026. No macro, syntax, notation, axiom, sorry.
-/
import Derived.Test.Qxb6614400aDoorChecked
import GoSem.Claim
import GoSem.ClaimJoined
import GoSem.ClaimMapViews
import Derived.JoinedTies
import Derived.KernelRfl
namespace Go.Proofs.Qxb6614400aDoor
/- THE CELL 'sum', in the pinned program and in every row, IS THE sha256 OF THE DUMP (.gsa) THAT Qxb6614400aDoorProg.lean LOADS. Nothing in Lean hashes anything: it is a label: what it is worth is what the hold of that sum in a sandbox is worth. -/
noncomputable def Tryd.pinned : Pinned := { name := "qxb6614400adoor", sum := "e9f3dff45bb3a95217edeed089ad381e6a99e7078161531e17327ef573d4d516", checked := Tryd.checked }
namespace Rows
def none {H : Type} : Left H := { results := [], args := [] }

/- WHAT THE LISTED PACKAGE-LEVEL VARIABLES READ AS WHEN THE CALL BEGINS. Each datum BY PROGRAM (the guide's laid-datum.mjs) off the statement by which the dump's own 'gosem.cut.vars' lays the variable. In a bare row this is a premise. The card (Qxb6614400aDoorCards.lean) ties it to the program's text. -/
def laid_example_com_annulus_annulus_operations {H : Type} : DataW H := .agg [.agg [.lit (.string [119, 114, 105, 116, 101]), .lit (.bool true), .lit (.int .u8 1), .lit (.int .u8 1), .lit (.int .u8 2)], .agg [.lit (.string [114, 101, 97, 100]), .lit (.bool false), .lit (.int .u8 13), .lit (.int .u8 5), .lit (.int .u8 6)]]

/-- 'zzlaws_root_b1.FnSettlesAgreesAcrossOperations': WHATEVER THE INPUT: true; the input reads as it did. -/
def fnSettlesAgreesAcrossOperationsSpec : ChangeSpec := { name := "fnSettlesAgreesAcrossOperations", vars := ["example.com/annulus/annulus.operations"], fn := fun _ => fun
  | [d1, d2, g1] => { results := [.lit (.bool true)], args := [d1, d2], vars := [g1] }
  | _ => none }
def fnSettlesAgreesAcrossOperationsRow : OpenClaim := { program := "qxb6614400adoor", sum := "e9f3dff45bb3a95217edeed089ad381e6a99e7078161531e17327ef573d4d516", func := "example.com/annulus/annulus/zzlaws_root_b1.FnSettlesAgreesAcrossOperations", spec := "fnSettlesAgreesAcrossOperations", named := ["example.com/annulus/annulus.operations"], apart := false, laid := [("example.com/annulus/annulus.operations", laid_example_com_annulus_annulus_operations)] }
def FnSettlesAgreesAcrossOperationsSaid : Prop := fnSettlesAgreesAcrossOperationsRow.holds Tryd.pinned (OpenSpec.ofChange fnSettlesAgreesAcrossOperationsSpec)

/-- ITS FALSE NEIGHBOUR: 'it returns false'. Refute it at one input. -/
def fnSettlesAgreesAcrossOperationsWrong : ChangeSpec := { name := "fnSettlesAgreesAcrossOperations", vars := ["example.com/annulus/annulus.operations"], fn := fun _ => fun
  | [d1, d2, g1] => { results := [.lit (.bool false)], args := [d1, d2], vars := [g1] }
  | _ => none }
def FnSettlesAgreesAcrossOperationsWrongFalsely : Prop := fnSettlesAgreesAcrossOperationsRow.holds Tryd.pinned (OpenSpec.ofChange fnSettlesAgreesAcrossOperationsWrong)

end Rows
end Go.Proofs.Qxb6614400aDoor
