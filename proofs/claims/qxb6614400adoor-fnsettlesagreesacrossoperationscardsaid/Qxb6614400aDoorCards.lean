/-
  DERIVED. GIVEN WITH THE SEED: THE CARDS: each row of Qxb6614400aDoorRows.lean that lists a variable, with what it lists TIED to the program's text (the seventh form; the later family's looks); each row that meets fmt, with fmt's text TOLD by the authors' own Lean function (tested against real Go, not proved from fmt's source: count such statements apart). THE CARD IS WHAT COUNTS. Prove the row's statement (the work); the ties are given (Qxb6614400aDoorTie.lean); close each card by the builder's one call (the guide's Derived/Test/ToyasCard.lean, 'card_holds'). Laid BY PROGRAM, IN A SANDBOX (cutbox-door.mjs). By AI agents, Wed Nov 11 2026. No macro, syntax, notation, axiom, sorry.
-/
import Derived.Test.Qxb6614400aDoorRows
import GoSem.ClaimSeven
namespace Go.Proofs.Qxb6614400aDoor
namespace Rows

/-- THE TIED CARD OF 'zzlaws_root_b1.FnSettlesAgreesAcrossOperations'. -/
def fnSettlesAgreesAcrossOperationsCard : Claim7 := { stood := { row := fnSettlesAgreesAcrossOperationsRow, standIns := [], harness := (true, "f987df96f82535ed21ab3898ba7201f4b223b6033b89086a92093184ffda5a83"), looks := false }, kinds := [], alts := [], laidByText := true, laidKinds := [.wider], laidTests := true, laidLooks := .later }
def FnSettlesAgreesAcrossOperationsCardSaid : Prop := Claim7.holds Tryd.pinned (.plain (OpenSpec.ofChange fnSettlesAgreesAcrossOperationsSpec)) fnSettlesAgreesAcrossOperationsCard
end Rows
end Go.Proofs.Qxb6614400aDoor
