/-
  DERIVED. GIVEN WITH THE SEED: THE CARDS: each row of Qxb6614365aFmtRows.lean that lists a variable, with what it lists TIED to the program's text (the seventh form; the later family's looks); each row that meets fmt, with fmt's text TOLD by the authors' own Lean function (tested against real Go, not proved from fmt's source: count such statements apart). THE CARD IS WHAT COUNTS. Prove the row's statement (the work); the ties are given (Qxb6614365aFmtTie.lean); close each card by the builder's one call (the guide's Derived/Test/ToyasCard.lean, 'card_holds'). Laid BY PROGRAM, IN A SANDBOX (cutbox-door.mjs). By AI agents, Wed Nov 11 2026. No macro, syntax, notation, axiom, sorry.
-/
import Derived.Test.Qxb6614365aFmtRows
import GoSem.ClaimSeven
namespace Go.Proofs.Qxb6614365aFmt
namespace Rows

/-- THE TOLD CARD OF 'zzlaws_internal_workerlease_b1.FnRangeStringParsesBack'. -/
def fnRangeStringParsesBackCard : Claim7 := { stood := { row := fnRangeStringParsesBackRow, standIns := [], harness := (true, "b6d5d533ee1fe017e57b7f6ed29c42de1a35be9edf1d698b2a0e9851b0506f99"), looks := false }, told := true, goes := false }
def FnRangeStringParsesBackToldSaid : Prop := Claim7.holds Tryf.pinned (.plain (OpenSpec.ofChange fnRangeStringParsesBackSpec)) fnRangeStringParsesBackCard
/-- ITS FALSE NEIGHBOUR. Refute it at one input. -/
def FnRangeStringParsesBackToldWrongFalsely : Prop := Claim7.holds Tryf.pinned (.plain (OpenSpec.ofChange fnRangeStringParsesBackWrong)) fnRangeStringParsesBackCard

/-- THE TOLD CARD OF 'zzlaws_internal_workerlease_b1.FnRangeStringInjective'. -/
def fnRangeStringInjectiveCard : Claim7 := { stood := { row := fnRangeStringInjectiveRow, standIns := [], harness := (true, "b6d5d533ee1fe017e57b7f6ed29c42de1a35be9edf1d698b2a0e9851b0506f99"), looks := false }, told := true, goes := false }
def FnRangeStringInjectiveToldSaid : Prop := Claim7.holds Tryf.pinned (.plain (OpenSpec.ofChange fnRangeStringInjectiveSpec)) fnRangeStringInjectiveCard
/-- ITS FALSE NEIGHBOUR. Refute it at one input. -/
def FnRangeStringInjectiveToldWrongFalsely : Prop := Claim7.holds Tryf.pinned (.plain (OpenSpec.ofChange fnRangeStringInjectiveWrong)) fnRangeStringInjectiveCard
end Rows
end Go.Proofs.Qxb6614365aFmt
