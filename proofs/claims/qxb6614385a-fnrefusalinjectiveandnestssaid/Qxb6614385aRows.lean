/-
  No cell of these rows narrows 'for every input' (looked for: loops, veiled, ifaces, maps, wideKeys, modest, calm, conditions, laid).
  DERIVED. THE GIVEN ROWS OF THIS SEAT. 1 by the template 'for every input the law returns true; each argument reads behind the call as it read before'; 0 by the template 'total and deterministic' (their statements: Qxb6614385aTotals.lean).
  GIVEN WITH THE SEED: the statements are not yours to turn. If you find one false, say at which input.
  Laid BY PROGRAM, IN A SANDBOX (cutbox-rows.mjs): the forced cells as the released guide's own fill.sh prints them over the translation d0367237a32327ed… (all of the seat's roots in one cut). By AI agents, Wed Nov 11 2026. No macro, syntax, notation, axiom, sorry.
-/
import Derived.Test.Qxb6614385aChecked
import GoSem.Claim
import GoSem.ClaimJoined
import GoSem.ClaimMapViews
import Derived.JoinedTies
import Derived.KernelRfl
namespace Go.Proofs.Qxb6614385a
/- THE CELL 'sum', in the pinned program and in every row, IS THE sha256 OF THE DUMP (.gsa) THAT Qxb6614385aProg.lean LOADS. Nothing in Lean hashes anything: it is a label: what it is worth is what the hold of that sum in a sandbox is worth. -/
noncomputable def Try.pinned : Pinned := { name := "qxb6614385a", sum := "d0367237a32327edd7bbd37a9b8f61a489182a37492cf3d5cb38ded1e283e045", checked := Try.checked }
namespace Rows
def none {H : Type} : Left H := { results := [], args := [] }

/-- 'zzlaws_internal_tool_b1.FnRefusalInjectiveAndNests': WHATEVER THE INPUT: true; the input reads as it did. -/
def fnRefusalInjectiveAndNestsSpec : ChangeSpec := { name := "fnRefusalInjectiveAndNests", fn := fun _ => fun
  | [d1, d2] => { results := [.lit (.bool true)], args := [d1, d2] }
  | _ => none }
def fnRefusalInjectiveAndNestsRow : OpenClaim := { program := "qxb6614385a", sum := "d0367237a32327edd7bbd37a9b8f61a489182a37492cf3d5cb38ded1e283e045", func := "example.com/cormorant/cormorant/zzlaws_internal_tool_b1.FnRefusalInjectiveAndNests", spec := "fnRefusalInjectiveAndNests", unfollowed := true, recurses := true, apart := false }
def FnRefusalInjectiveAndNestsSaid : Prop := fnRefusalInjectiveAndNestsRow.holds Try.pinned (OpenSpec.ofChange fnRefusalInjectiveAndNestsSpec)

/-- ITS FALSE NEIGHBOUR: 'it returns false'. Refute it at one input. -/
def fnRefusalInjectiveAndNestsWrong : ChangeSpec := { name := "fnRefusalInjectiveAndNests", fn := fun _ => fun
  | [d1, d2] => { results := [.lit (.bool false)], args := [d1, d2] }
  | _ => none }
def FnRefusalInjectiveAndNestsWrongFalsely : Prop := fnRefusalInjectiveAndNestsRow.holds Try.pinned (OpenSpec.ofChange fnRefusalInjectiveAndNestsWrong)

end Rows
end Go.Proofs.Qxb6614385a
