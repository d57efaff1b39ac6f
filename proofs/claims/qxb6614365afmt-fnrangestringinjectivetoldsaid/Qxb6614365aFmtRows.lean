/-
  No cell of these rows narrows 'for every input' (looked for: loops, veiled, ifaces, maps, wideKeys, modest, calm, conditions, laid).
  DERIVED. THE GIVEN ROWS OF THIS SEAT. 2 by the template 'for every input the law returns true; each argument reads behind the call as it read before'; 0 by the template 'total and deterministic' (their statements: Qxb6614365aFmtTotals.lean).
  GIVEN WITH THE SEED: the statements are not yours to turn. If you find one false, say at which input.
  Laid BY PROGRAM, IN A SANDBOX (cutbox-rows.mjs): the forced cells as the released guide's own fill.sh prints them over the translation 996d0eb5ec7766f3… (all of the seat's roots in one cut). By AI agents, Wed Nov 11 2026. No macro, syntax, notation, axiom, sorry.
-/
import Derived.Test.Qxb6614365aFmtChecked
import GoSem.Claim
import GoSem.ClaimJoined
import GoSem.ClaimMapViews
import Derived.JoinedTies
import Derived.KernelRfl
namespace Go.Proofs.Qxb6614365aFmt
/- THE CELL 'sum', in the pinned program and in every row, IS THE sha256 OF THE DUMP (.gsa) THAT Qxb6614365aFmtProg.lean LOADS. Nothing in Lean hashes anything: it is a label: what it is worth is what the hold of that sum in a sandbox is worth. -/
noncomputable def Tryf.pinned : Pinned := { name := "qxb6614365afmt", sum := "996d0eb5ec7766f37790723dbcffc93a9b9c553fc1b63795c4fbf31790391b25", checked := Tryf.checked }
namespace Rows
def none {H : Type} : Left H := { results := [], args := [] }

/-- 'zzlaws_internal_workerlease_b1.FnRangeStringParsesBack': WHATEVER THE INPUT: true; the input reads as it did. -/
def fnRangeStringParsesBackSpec : ChangeSpec := { name := "fnRangeStringParsesBack", fn := fun _ => fun
  | [d1, d2] => { results := [.lit (.bool true)], args := [d1, d2] }
  | _ => none }
def fnRangeStringParsesBackRow : OpenClaim := { program := "qxb6614365afmt", sum := "996d0eb5ec7766f37790723dbcffc93a9b9c553fc1b63795c4fbf31790391b25", func := "example.com/tallyward/tallyward/zzlaws_internal_workerlease_b1.FnRangeStringParsesBack", spec := "fnRangeStringParsesBack", stops := ["fmt.Sprintf"], inPlace := ["fmt.Sprintf"], apart := false }
/-- NO THEOREM (fmt's text is open here; it may be false): for the released tool's asking of the row's closed facts alone. THE STATEMENT IS 'FnRangeStringParsesBackToldSaid' (Qxb6614365aFmtCards.lean). -/
def FnRangeStringParsesBackFormAsk : Prop := fnRangeStringParsesBackRow.holds Tryf.pinned (OpenSpec.ofChange fnRangeStringParsesBackSpec)

/-- ITS FALSE NEIGHBOUR: 'it returns false'. Refute it at one input. -/
def fnRangeStringParsesBackWrong : ChangeSpec := { name := "fnRangeStringParsesBack", fn := fun _ => fun
  | [d1, d2] => { results := [.lit (.bool false)], args := [d1, d2] }
  | _ => none }
def FnRangeStringParsesBackWrongFormAsk : Prop := fnRangeStringParsesBackRow.holds Tryf.pinned (OpenSpec.ofChange fnRangeStringParsesBackWrong)

/-- 'zzlaws_internal_workerlease_b1.FnRangeStringInjective': WHATEVER THE INPUT: true; the input reads as it did. -/
def fnRangeStringInjectiveSpec : ChangeSpec := { name := "fnRangeStringInjective", fn := fun _ => fun
  | [d1, d2, d3, d4] => { results := [.lit (.bool true)], args := [d1, d2, d3, d4] }
  | _ => none }
def fnRangeStringInjectiveRow : OpenClaim := { program := "qxb6614365afmt", sum := "996d0eb5ec7766f37790723dbcffc93a9b9c553fc1b63795c4fbf31790391b25", func := "example.com/tallyward/tallyward/zzlaws_internal_workerlease_b1.FnRangeStringInjective", spec := "fnRangeStringInjective", stops := ["fmt.Sprintf"], inPlace := ["fmt.Sprintf"], apart := false }
/-- NO THEOREM (fmt's text is open here; it may be false): for the released tool's asking of the row's closed facts alone. THE STATEMENT IS 'FnRangeStringInjectiveToldSaid' (Qxb6614365aFmtCards.lean). -/
def FnRangeStringInjectiveFormAsk : Prop := fnRangeStringInjectiveRow.holds Tryf.pinned (OpenSpec.ofChange fnRangeStringInjectiveSpec)

/-- ITS FALSE NEIGHBOUR: 'it returns false'. Refute it at one input. -/
def fnRangeStringInjectiveWrong : ChangeSpec := { name := "fnRangeStringInjective", fn := fun _ => fun
  | [d1, d2, d3, d4] => { results := [.lit (.bool false)], args := [d1, d2, d3, d4] }
  | _ => none }
def FnRangeStringInjectiveWrongFormAsk : Prop := fnRangeStringInjectiveRow.holds Tryf.pinned (OpenSpec.ofChange fnRangeStringInjectiveWrong)

end Rows
end Go.Proofs.Qxb6614365aFmt
