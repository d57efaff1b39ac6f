/-
  A PROOF OF 'Rows.FnValidIndexThirtyOneBitMaskSaid'. The frame is the seat's given shell (written by program); the walk and the two laws on bits are ours.
-/
import Derived.Test.Qxb6614378aRows
import Derived.WalkKit
import Derived.ProofKit
import Derived.OpenShut
import Derived.ShutString
namespace Go.Proofs.Qxb6614378a.fnValidIndexThirtyOneBitMask
open Go.ChangeShapes Go.WideShapes Go.ChangeAt Go.RowKit
open Go.ChangeMaps (open_string shut_string)
set_option linter.unusedVariables false      -- a walk need not use every 'w<i>' (that an integer argument fits its kind)

theorem own : ownKnob Try.prog.godebug = none := by kernel_rfl

/-! ### STEP 1: THE WALK: the Go text returns true. 'Grown w w'': the world has at most new blocks (Derived/RowKit3.lean). Part the cases AHEAD of 'go_enter' where a test parts the walk; take each callee by a contract of your own. -/
theorem ret_true {b : Bool} (h : b = true) : Ending.returned (.bool b) = .returned (.bool true) := by rw [h]

/-- The low 31 bits of an int. -/
theorem and31 (n : Int) : bits .and .i64 n 2147483647 = n % 2147483648 := by
  have e1 : (BitVec.ofInt 64 2147483647).toNat = 2 ^ 31 - 1 := by decide
  have e2 : (BitVec.ofInt 64 n).toNat = (n % 18446744073709551616).toNat := by rw [BitVec.toNat_ofInt]; rfl
  have e3 : (BitVec.ofInt 64 n &&& BitVec.ofInt 64 2147483647).toNat = (n % 18446744073709551616).toNat % 2 ^ 31 := by
    rw [BitVec.toNat_and, e1, e2, Nat.and_two_pow_sub_one_eq_mod]
  show IntKind.i64.wrap ((BitVec.ofInt 64 n &&& BitVec.ofInt 64 2147483647).toNat : Int) = _
  rw [e3, IntKind.wrap_i64]
  have e4 : (2 : Nat) ^ 31 = 2147483648 := by decide
  rw [e4]
  omega
theorem or1 (m : Int) (h0 : 0 ≤ m) (h1 : m ≤ 2147483647) : 1 ≤ bits .or .i64 m 1 ∧ bits .or .i64 m 1 ≤ 2147483647 := by
  have e1 : (BitVec.ofInt 64 1).toNat = 1 := by decide
  have e2 : (BitVec.ofInt 64 m).toNat = m.toNat := by
    rw [BitVec.toNat_ofInt]
    show (m % 18446744073709551616).toNat = _
    omega
  have e3 : (BitVec.ofInt 64 m ||| BitVec.ofInt 64 1).toNat = m.toNat ||| 1 := by rw [BitVec.toNat_or, e1, e2]
  have l1 : 1 ≤ m.toNat ||| 1 := Nat.right_le_or
  have e4 : (2 : Nat) ^ 31 = 2147483648 := by decide
  have l2 : m.toNat ||| 1 < 2 ^ 31 := Nat.or_lt_two_pow (by omega) (by decide)
  have e5 : bits .or .i64 m 1 = IntKind.i64.wrap ((m.toNat ||| 1 : Nat) : Int) := by
    show IntKind.i64.wrap ((BitVec.ofInt 64 m ||| BitVec.ofInt 64 1).toNat : Int) = _
    rw [e3]
  rw [e5, IntKind.wrap_i64]
  omega

theorem walkV (n : Int) (w : World) (h0 : 1 ≤ n) (h1 : n ≤ 2147483647) (hm : bits .and .i64 n 2147483647 = n) (h2 : 1 ≤ bits .or .i64 n 1) (h3 : bits .or .i64 n 1 ≤ 2147483647) :
    Calls Try.prog 4 #[.int .i64 (n)] w fun e w' => e = .returned (.bool true) ∧ Grown w w' := by
  go_enter Try.func4, Try.ntmps4
  go_wp2
  go_ret
  exact ⟨ret_true (by first | rfl | (simp; done) | (simp; omega)), Grown.refl _⟩

theorem walkX (n m : Int) (w : World) (hlo : -9223372036854775808 ≤ n) (hhi : n ≤ 9223372036854775807) (hn : n < 0 ∨ 2147483647 < n) (hm : bits .and .i64 n 2147483647 = m) (hmn : (m == n) = false) (h2 : 1 ≤ bits .or .i64 m 1) (h3 : bits .or .i64 m 1 ≤ 2147483647) :
    Calls Try.prog 4 #[.int .i64 (n)] w fun e w' => e = .returned (.bool true) ∧ Grown w w' := by
  rcases hn with hn | hn
  · go_enter Try.func4, Try.ntmps4
    go_wp2
    go_ret
    exact ⟨ret_true (by first | rfl | (simp; done) | (simp; omega)), Grown.refl _⟩
  · go_enter Try.func4, Try.ntmps4
    go_wp2
    go_ret
    exact ⟨ret_true (by first | rfl | (simp; done) | (simp; omega)), Grown.refl _⟩

theorem walkZ (w : World) (hm : bits .and .i64 0 2147483647 = 0) (h2 : 1 ≤ bits .or .i64 0 1) (h3 : bits .or .i64 0 1 ≤ 2147483647) :
    Calls Try.prog 4 #[.int .i64 (0)] w fun e w' => e = .returned (.bool true) ∧ Grown w w' := by
  go_enter Try.func4, Try.ntmps4
  go_wp2
  go_ret
  exact ⟨ret_true (by first | rfl | (simp; done) | (simp; omega)), Grown.refl _⟩

theorem walk (a0 : Int) (w0 : (Lit.int .i64 a0).wf = true) (w : World) :
    Calls Try.prog 4 #[.int .i64 a0] w fun e w' => e = .returned (.bool true) ∧ Grown w w' := by
  have hbd : -9223372036854775808 ≤ a0 ∧ a0 ≤ 9223372036854775807 := by
    simp [Lit.wf, IntKind.min, IntKind.max, IntKind.signed, IntKind.bits] at w0
    omega
  obtain ⟨hlo, hhi⟩ := hbd
  have hm := and31 a0
  by_cases hZ : a0 = 0
  · have ho := or1 0 (by omega) (by omega)
    rw [hZ] at hm ⊢
    exact walkZ w hm ho.1 ho.2
  by_cases hV : 1 ≤ a0 ∧ a0 ≤ 2147483647
  · have ho := or1 a0 (by omega) (by omega)
    exact walkV a0 w hV.1 hV.2 (by omega) ho.1 ho.2
  · have ho := or1 (a0 % 2147483648) (by omega) (by omega)
    exact walkX a0 (a0 % 2147483648) w hlo hhi (by omega) hm (by rw [beq_eq_false_iff_ne]; omega) ho.1 ho.2

/-! ### THE ROW's STEP: WRITTEN OUT: LEAVE IT -/
set_option maxRecDepth 100000 in
theorem lifted (os : Os) (started : os.Started) (H : Type) (enc : TypeId × Value → H) :
    ReturnsInHanded {} Try.checked os 4 .any (Rows.fnValidIndexThirtyOneBitMaskSpec.pre6 enc Try.prog Try.f4 Rows.fnValidIndexThirtyOneBitMaskRow.domain false) (Rows.fnValidIndexThirtyOneBitMaskSpec.post enc Try.prog Try.f4 false true false false) := by
  refine returnsInHanded_of_change (C := Try.checked) own started (by kernel_rfl) Try.func4
    (ChangeSpec.witness6 (enc := enc) (C := Try.checked) false ⟨#[], #[.int .i64 0], []⟩ 8 (by kernel_rfl) (by kernel_rfl) (by kernel_rfl) (by kernel_rfl)) ?_
  intro W base args ds gs before hval0 hW hcnd _
  have hval : ∀ (j : Nat) t v, Try.f4.params[j]? = some t → args[j]? = some v → Value.okWide Try.prog W .any base t v := hval0
  have hW' := hW
  obtain ⟨p, q, hA0, hV, rfl, hfz, hnd⟩ := hW
  have hA : DataW.TrodAll enc Try.prog W 0 (fun _ => true) true Try.f4.params.toList args.toList ds p := hA0
  rw [Try.params4] at hA hval
  obtain ⟨v0, vs0, d0, ds0, p0, q0, hargs, rfl, rfl, h0, r0⟩ := trodAll_cons hA
  obtain ⟨rfl, rfl, rfl⟩ := trodAll_nil r0
  obtain rfl : args = #[v0] := by cases args; simp_all
  obtain ⟨rfl, rfl⟩ := trodVars_none hV
  obtain ⟨a0, rfl, rfl, rfl, w0⟩ := open_int Try.underlying3 (hval 0 3 v0 rfl rfl) h0
  clear hA0 hval0
  simp only [List.append_nil] at hW'
  refine (walk a0 w0 W).mono fun e W' ⟨he, hg⟩ => ?_
  subst he
  exact ⟨_, rfl, post_of_same (pa := []) (pv := []) hW' (fun _ _ _ => (trodAll_cons_mk (shut_bool Try.underlying4 _) trodAll_mk0)) (fun sp _ => (trodAll_cons_mk (shut_int Try.underlying3 w0) trodAll_mk0)) (fun _ _ => rfl) rfl
    (hg.frame _) hg.2.1 (ok_one (by kernel_rfl) rfl (okWide_bool_mk Try.underlying4 _))⟩

theorem over : Rows.fnValidIndexThirtyOneBitMaskRow.holds Try.pinned (OpenSpec.ofChange Rows.fnValidIndexThirtyOneBitMaskSpec) :=
  OpenClaim.holds_of_wide 4 Try.f4 rfl rfl rfl rfl rfl rfl rfl ⟨rfl, rfl, rfl, rfl, rfl⟩ rfl rfl rfl rfl rfl (by kernel_rfl) Try.func4 (by kernel_rfl)
    (of_decide_eq_true (by kernel_rfl)) (by unfold Func.isWrapper; first | (rw [if_pos (by decide +kernel)]; kernel_rfl) | (rw [if_neg (by decide +kernel)]; exact ⟨rfl, rfl⟩))
    (fun os started H enc _ => lifted os started H enc)

/-- ████ THE STATEMENT ████ -/
theorem proved : Rows.FnValidIndexThirtyOneBitMaskSaid :=
  over
end Go.Proofs.Qxb6614378a.fnValidIndexThirtyOneBitMask
