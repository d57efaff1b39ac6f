/-
  SEAT b6614365aF: workerlease.Range.String, walked: fmt.Sprintf is a stop (its text is told by the authors' own function). The closed facts on the stop, then the contract, then the text.
-/
import Derived.Test.Qxb6614365aFmtRows
import Derived.Test.Qxb6614365aFmtPlain
import Derived.WalkKit
import Derived.WalkSpells
import Derived.Stop.CallBack
import Derived.Stop.IfaceNil
import Derived.Stop.Texts
import Derived.Stop.JoinedTold
import Derived.Stop.FmtTextKit
import Derived.Stop.FmtTextVerbs
import GoSem.ClaimData
namespace Go.Proofs.Qxb6614365aFmt
open Go.RowKit Go.Extern.Stop Go.Stop Go.Extern

/-! ### The stop's closed facts -/
theorem call8 (args : Array Value) (w : World) : (callFunc 8 args).run Tryf.prog w = ((FmtStop.sprintf #[9, 46] #[9] args).run Tryf.prog w).andThen fun v w' => .ok (.value v) w' :=
  run_callFunc_extern Tryf.func8 (by kernel_rfl) (by kernel_rfl) (by kernel_rfl) (by kernel_rfl) args w
theorem guardS (name : String) (w : World) : (FmtStop.guard name).run Tryf.prog w = .ok () w := by kernel_rfl
theorem fmt2 : FmtStop.printed? ⟨#[37, 100, 45, 37, 100]⟩ 2 = some [(0, 100, false), (1, 100, false)] := by kernel_rfl
theorem fmt2r (w : World) : (FmtDoors.printed ⟨#[37, 100, 45, 37, 100]⟩ 2).run Tryf.prog w = .ok [(0, 100, false), (1, 100, false)] w := by kernel_rfl
def shape3 : List UInt8 := [5, 3, 0, 0, 0, 0, 0, 0, 0, 105, 110, 116]
theorem op3_100 (name : String) (x : Int) (w : World) : (FmtStop.operand name false 100 false (.iface 3 (.int .i64 x))).run Tryf.prog w = .ok (shape3, Go.Extern.Stop.digits 8 (x % 2 ^ 64).toNat) w := by kernel_rfl

/-- WHAT fmt IS ASKED. -/
def reading (a b : Int) : List (List UInt8) :=
  [[37, 100, 45, 37, 100], shape3, digits 8 (a % 18446744073709551616).toNat, shape3, digits 8 (b % 18446744073709551616).toNat]

section walk
attribute [local go_sem] call8 guardS fmt2 fmt2r op3_100
set_option maxHeartbeats 400000 in
theorem string_open (F : Interp) (a b : Int) (w : World) (hF : F.answers w.tape) :
    Calls Tryf.prog 5 #[.agg #[.int .i64 a, .int .i64 b]] w fun e w' => e = .returned (.string (FmtStop.textOf (F "fmt.Sprintf" (reading a b) 0))) ∧
      w' = ((w.alloc (.cells #[.int .i64 a, .int .i64 b] 23)).alloc (.cells #[.iface 3 (.int .i64 a), .iface 3 (.int .i64 b)] 20)).drew := by
  have hF' := answers_open hF
  go_enter Tryf.func5, Tryf.ntmps5
  go_wp2
  go_ret
  exact ⟨rfl, rfl⟩
end walk

/-! ### The text -/
theorem t_parse : (FmtText.parse [37, 100, 45, 37, 100]).map FmtText.glue = some [.verb {} 100, .lit [45], .verb {} 100] := by rfl
theorem t_text (a b : Int) (wa : (Lit.int .i64 a).wf = true) (wb : (Lit.int .i64 b).wf = true) : FmtText.text "fmt.Sprintf" (reading a b) = some (txtL a b) := by
  have h1 := FmtText.operand_int_at (sh := shape3) (k := .i64) rfl rfl a wa
  have h2 := FmtText.operand_int_at (sh := shape3) (k := .i64) rfl rfl b wb
  rw [reading, FmtText.text_sprintf_glued t_parse (FmtText.operands_cons h1 (FmtText.operands_cons h2 FmtText.operands_nil))]
  simp [FmtText.render, FmtText.printArg_d _ _ wa, FmtText.printArg_d _ _ wb, txtL]
theorem txtL_len (a b : Int) (wa : (Lit.int .i64 a).wf = true) (wb : (Lit.int .i64 b).wf = true) : (txtL a b).length ≤ 43 := by
  have h1 := FmtText.itoa_length_le wa
  have h2 := FmtText.itoa_length_le wb
  simp [txtL]; omega
theorem told_txt (F : Interp) (a b : Int) (wa : (Lit.int .i64 a).wf = true) (wb : (Lit.int .i64 b).wf = true) : FmtStop.textOf (F.told "fmt.Sprintf" (reading a b) 0) = txt a b := by
  have ht := told_string F (t_text a b wa wb) (by have := txtL_len a b wa wb; omega)
  have e : (FmtStop.textOf (F.told "fmt.Sprintf" (reading a b) 0)).data.toList = txtL a b := by rw [Go.Kit.textOf_list, ht]
  have e2 : (FmtStop.textOf (F.told "fmt.Sprintf" (reading a b) 0)).data = (txtL a b).toArray := by rw [← e]
  unfold txt
  rw [← e2]

/-- THE CONTRACT: String gives the two decimals with a dash between; the world has new blocks, and no more. -/
theorem string_told (F : Interp) (a b : Int) (wa : (Lit.int .i64 a).wf = true) (wb : (Lit.int .i64 b).wf = true) (w : World) (hF : F.told.answers w.tape) :
    Calls Tryf.prog 5 #[.agg #[.int .i64 a, .int .i64 b]] w fun e w' => e = .returned (.string (txt a b)) ∧
      w' = ((w.alloc (.cells #[.int .i64 a, .int .i64 b] 23)).alloc (.cells #[.iface 3 (.int .i64 a), .iface 3 (.int .i64 b)] 20)).drew := by
  refine (string_open F.told a b w hF).mono fun e w' ⟨he, hw⟩ => ⟨?_, hw⟩
  rw [he, told_txt F a b wa wb]
end Go.Proofs.Qxb6614365aFmt
