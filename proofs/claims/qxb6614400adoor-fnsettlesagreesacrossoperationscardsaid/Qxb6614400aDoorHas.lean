/-
  SEAT b6614400aD: stateSet.has, walked at the two sets that the table holds.
-/
import Derived.Test.Qxb6614400aDoorRows
import Derived.WalkKit
import Derived.WalkSpells
import Derived.Handy
import Derived.Outline
namespace Go.Proofs.Qxb6614400aDoor
open Go.RowKit

theorem ret_bool {a b : Bool} (h : a = b) : Ending.returned (.bool a) = .returned (.bool b) := by rw [h]

theorem one_bit (m : Nat) (h : m ≤ 8) : (bits .and .u8 1 (2 ^ m % 256) != 0) = (m == 0) := by
  match m, h with
  | 0, _ => decide
  | 1, _ => decide
  | 2, _ => decide
  | 3, _ => decide
  | 4, _ => decide
  | 5, _ => decide
  | 6, _ => decide
  | 7, _ => decide
  | 8, _ => decide
theorem five_bit (m : Nat) (h : m ≤ 8) : (bits .and .u8 5 (2 ^ m % 256) != 0) = (m == 0 || m == 2) := by
  match m, h with
  | 0, _ => decide
  | 1, _ => decide
  | 2, _ => decide
  | 3, _ => decide
  | 4, _ => decide
  | 5, _ => decide
  | 6, _ => decide
  | 7, _ => decide
  | 8, _ => decide
theorem min_zero (s : Int) (h0 : 0 ≤ s) : (min s.toNat 8 == 0) = (s == 0) := by
  rw [Bool.eq_iff_iff, beq_iff_eq, beq_iff_eq]; omega
theorem min_two (s : Int) : (min s.toNat 8 == 2) = (s == 2) := by
  rw [Bool.eq_iff_iff, beq_iff_eq, beq_iff_eq]; omega

/-- Write's set: ACTIVE alone. -/
theorem has_one (s : Int) (h0 : 0 ≤ s) (w : World) :
    Calls Tryd.prog 9 #[.int .u8 1, .int .i64 s] w fun e w' => e = .returned (.bool (s == 0)) ∧ w' = w := by
  go_enter Tryd.func9, Tryd.ntmps9
  go_wp2
  go_ret
  exact ⟨ret_bool (by rw [one_bit _ (by omega), min_zero s h0]), rfl⟩

/-- Read's set: ACTIVE and LEAVING. -/
theorem has_five (s : Int) (h0 : 0 ≤ s) (w : World) :
    Calls Tryd.prog 9 #[.int .u8 5, .int .i64 s] w fun e w' => e = .returned (.bool (s == 0 || s == 2)) ∧ w' = w := by
  go_enter Tryd.func9, Tryd.ntmps9
  go_wp2
  go_ret
  exact ⟨ret_bool (by rw [five_bit _ (by omega), min_zero s h0, min_two s]), rfl⟩
end Go.Proofs.Qxb6614400aDoor
