/-
  A PROOF OF 'Rows.FnValidIndexNegationPairFitsInt32Said'. The frame is the seat's given shell (written by program); the walk, parted into seven cases of n, is ours.
-/
import Derived.Test.Qxb6614378aRows
import Derived.WalkKit
import Derived.ProofKit
import Derived.OpenShut
import Derived.ShutString
namespace Go.Proofs.Qxb6614378a.fnValidIndexNegationPairFitsInt32
open Go.ChangeShapes Go.WideShapes Go.ChangeAt Go.RowKit
open Go.ChangeMaps (open_string shut_string)
set_option linter.unusedVariables false      -- a walk need not use every 'w<i>' (that an integer argument fits its kind)

theorem own : ownKnob Try.prog.godebug = none := by kernel_rfl

/-! ### STEP 1: THE WALK: the Go text returns true. 'Grown w w'': the world has at most new blocks (Derived/RowKit3.lean). Part the cases AHEAD of 'go_enter' where a test parts the walk; take each callee by a contract of your own. -/
theorem ret_true {b : Bool} (h : b = true) : Ending.returned (.bool b) = .returned (.bool true) := by rw [h]
theorem least_wraps : wrap64 9223372036854775808 = -9223372036854775808 := by simp only [wrap64]; omega
theorem thirty_one_wraps : wrap64 (wrap32 2147483648) = -2147483648 := by simp only [wrap64, wrap32]; omega
theorem low_parts {n : Int} (h0 : -9223372036854775808 ≤ n) (h1 : n < -2147483648) : (wrap64 (wrap32 n) == n) = false := by
  rw [beq_eq_false_iff_ne]; simp only [wrap64, wrap32]; omega
theorem high_parts {n : Int} (h0 : n ≤ 9223372036854775807) (h1 : 2147483647 < n) : (wrap64 (wrap32 n) == n) = false := by
  rw [beq_eq_false_iff_ne]; simp only [wrap64, wrap32]; omega

theorem walkA (w : World) :
    Calls Try.prog 3 #[.int .i64 (-9223372036854775808)] w fun e w' => e = .returned (.bool true) ∧ Grown w w' := by
  have hw := least_wraps
  go_enter Try.func3, Try.ntmps3
  go_wp2
  go_ret
  exact ⟨ret_true (by first | rfl | (simp; done) | (simp; omega)), Grown.refl _⟩

theorem walkB (n : Int) (w : World) (h0 : -9223372036854775807 ≤ n) (h1 : n < -2147483648) :
    Calls Try.prog 3 #[.int .i64 (n)] w fun e w' => e = .returned (.bool true) ∧ Grown w w' := by
  have hw := low_parts (n := n) (by omega) h1
  go_enter Try.func3, Try.ntmps3
  go_wp2
  go_ret
  exact ⟨ret_true (by first | rfl | (simp; done) | (simp; omega)), Grown.refl _⟩

theorem walkC (w : World) :
    Calls Try.prog 3 #[.int .i64 (-2147483648)] w fun e w' => e = .returned (.bool true) ∧ Grown w w' := by
  have hw := thirty_one_wraps
  go_enter Try.func3, Try.ntmps3
  go_wp2
  go_ret
  exact ⟨ret_true (by first | rfl | (simp; done) | (simp; omega)), Grown.refl _⟩

theorem walkD (n : Int) (w : World) (h0 : -2147483647 ≤ n) (h1 : n < 0) :
    Calls Try.prog 3 #[.int .i64 (n)] w fun e w' => e = .returned (.bool true) ∧ Grown w w' := by
  go_enter Try.func3, Try.ntmps3
  go_wp2
  go_ret
  have e1 : (n != 0) = true := by simp; omega
  have e2 : decide (0 < n) = false := by simp; omega
  have e3 : decide (-n ≤ 2147483647) = true := by simp; omega
  exact ⟨ret_true (by rw [e1, e2, e3]; rfl), Grown.refl _⟩

theorem walkE (w : World) :
    Calls Try.prog 3 #[.int .i64 (0)] w fun e w' => e = .returned (.bool true) ∧ Grown w w' := by
  go_enter Try.func3, Try.ntmps3
  go_wp2
  go_ret
  exact ⟨ret_true (by first | rfl | (simp; done) | (simp; omega)), Grown.refl _⟩

theorem walkF (n : Int) (w : World) (h0 : 0 < n) (h1 : n ≤ 2147483647) :
    Calls Try.prog 3 #[.int .i64 (n)] w fun e w' => e = .returned (.bool true) ∧ Grown w w' := by
  go_enter Try.func3, Try.ntmps3
  go_wp2
  go_ret
  exact ⟨ret_true (by first | rfl | (simp; done) | (simp; omega)), Grown.refl _⟩

theorem walkG (n : Int) (w : World) (h0 : 2147483647 < n) (h1 : n ≤ 9223372036854775807) :
    Calls Try.prog 3 #[.int .i64 (n)] w fun e w' => e = .returned (.bool true) ∧ Grown w w' := by
  have hw := high_parts (n := n) h1 h0
  go_enter Try.func3, Try.ntmps3
  go_wp2
  go_ret
  exact ⟨ret_true (by first | rfl | (simp; done) | (simp; omega)), Grown.refl _⟩

theorem walk (a0 : Int) (w0 : (Lit.int .i64 a0).wf = true) (w : World) :
    Calls Try.prog 3 #[.int .i64 a0] w fun e w' => e = .returned (.bool true) ∧ Grown w w' := by
  have hbd : -9223372036854775808 ≤ a0 ∧ a0 ≤ 9223372036854775807 := by
    simp [Lit.wf, IntKind.min, IntKind.max, IntKind.signed, IntKind.bits] at w0
    omega
  obtain ⟨hlo, hhi⟩ := hbd
  by_cases hA : a0 = -9223372036854775808
  · rw [hA]; exact walkA w
  by_cases hB : a0 < -2147483648
  · exact walkB a0 w (by omega) hB
  by_cases hC : a0 = -2147483648
  · rw [hC]; exact walkC w
  by_cases hD : a0 < 0
  · exact walkD a0 w (by omega) hD
  by_cases hE : a0 = 0
  · rw [hE]; exact walkE w
  by_cases hF : a0 ≤ 2147483647
  · exact walkF a0 w (by omega) hF
  · exact walkG a0 w (by omega) hhi

/-! ### THE ROW's STEP: WRITTEN OUT: LEAVE IT -/
set_option maxRecDepth 100000 in
theorem lifted (os : Os) (started : os.Started) (H : Type) (enc : TypeId × Value → H) :
    ReturnsInHanded {} Try.checked os 3 .any (Rows.fnValidIndexNegationPairFitsInt32Spec.pre6 enc Try.prog Try.f3 Rows.fnValidIndexNegationPairFitsInt32Row.domain false) (Rows.fnValidIndexNegationPairFitsInt32Spec.post enc Try.prog Try.f3 false true false false) := by
  refine returnsInHanded_of_change (C := Try.checked) own started (by kernel_rfl) Try.func3
    (ChangeSpec.witness6 (enc := enc) (C := Try.checked) false ⟨#[], #[.int .i64 0], []⟩ 8 (by kernel_rfl) (by kernel_rfl) (by kernel_rfl) (by kernel_rfl)) ?_
  intro W base args ds gs before hval0 hW hcnd _
  have hval : ∀ (j : Nat) t v, Try.f3.params[j]? = some t → args[j]? = some v → Value.okWide Try.prog W .any base t v := hval0
  have hW' := hW
  obtain ⟨p, q, hA0, hV, rfl, hfz, hnd⟩ := hW
  have hA : DataW.TrodAll enc Try.prog W 0 (fun _ => true) true Try.f3.params.toList args.toList ds p := hA0
  rw [Try.params3] at hA hval
  obtain ⟨v0, vs0, d0, ds0, p0, q0, hargs, rfl, rfl, h0, r0⟩ := trodAll_cons hA
  obtain ⟨rfl, rfl, rfl⟩ := trodAll_nil r0
  obtain rfl : args = #[v0] := by cases args; simp_all
  obtain ⟨rfl, rfl⟩ := trodVars_none hV
  obtain ⟨a0, rfl, rfl, rfl, w0⟩ := open_int Try.underlying3 (hval 0 3 v0 rfl rfl) h0
  clear hA0 hval0
  simp only [List.append_nil] at hW'
  refine (walk a0 w0 W).mono fun e W' ⟨he, hg⟩ => ?_
  subst he
  exact ⟨_, rfl, post_of_same (pa := []) (pv := []) hW' (fun _ _ _ => (trodAll_cons_mk (shut_bool Try.underlying4 _) trodAll_mk0)) (fun sp _ => (trodAll_cons_mk (shut_int Try.underlying3 w0) trodAll_mk0)) (fun _ _ => rfl) rfl
    (hg.frame _) hg.2.1 (ok_one (by kernel_rfl) rfl (okWide_bool_mk Try.underlying4 _))⟩

theorem over : Rows.fnValidIndexNegationPairFitsInt32Row.holds Try.pinned (OpenSpec.ofChange Rows.fnValidIndexNegationPairFitsInt32Spec) :=
  OpenClaim.holds_of_wide 3 Try.f3 rfl rfl rfl rfl rfl rfl rfl ⟨rfl, rfl, rfl, rfl, rfl⟩ rfl rfl rfl rfl rfl (by kernel_rfl) Try.func3 (by kernel_rfl)
    (of_decide_eq_true (by kernel_rfl)) (by unfold Func.isWrapper; first | (rw [if_pos (by decide +kernel)]; kernel_rfl) | (rw [if_neg (by decide +kernel)]; exact ⟨rfl, rfl⟩))
    (fun os started H enc _ => lifted os started H enc)

/-- ████ THE STATEMENT ████ -/
theorem proved : Rows.FnValidIndexNegationPairFitsInt32Said :=
  over
end Go.Proofs.Qxb6614378a.fnValidIndexNegationPairFitsInt32
