/-
  SEAT b6614400aD: (Operation).settles and ZZsettles, walked: a look into the table, then has.
-/
import Derived.Test.Qxb6614400aDoorHas
import Derived.Deep.QuietTactic
import Derived.BigQuiet
namespace Go.Proofs.Qxb6614400aDoor
open Go.RowKit

set_option maxHeartbeats 400000 in
theorem settles_write (b : Nat) (s : Int) (h0 : 0 ≤ s) (w : World) (ht : w.cell? ⟨0, 3, none⟩ = some (.int .u8 1)) (hc : w.cell? ⟨b, 3, none⟩ = some (.int .i64 s)) :
    Calls Tryd.prog 8 #[.int .i64 0, .pointer (some ⟨b, 0, none⟩)] w fun e w' => e = .returned (.bool (s == 0)) ∧ ∃ n, w' = w.drewN n := by
  go_enter Tryd.func8, Tryd.ntmps8
  go_wp2_with fail
  go_quiet ((go_at_call 9; exact Calls.quiet_of_same (has_one s h0 _)))
  go_wp2
  go_ret
  exact ⟨rfl, _, rfl⟩

set_option maxHeartbeats 400000 in
theorem zz_write (b : Nat) (s : Int) (h0 : 0 ≤ s) (w : World) (ht : w.cell? ⟨0, 3, none⟩ = some (.int .u8 1)) (hc : w.cell? ⟨b, 3, none⟩ = some (.int .i64 s)) :
    Calls Tryd.prog 7 #[.int .i64 0, .pointer (some ⟨b, 0, none⟩)] w fun e w' => e = .returned (.bool (s == 0)) ∧ ∃ n, w' = w.drewN n := by
  go_enter Tryd.func7, Tryd.ntmps7
  go_wp2_with fail
  refine (settles_write b s h0 _ ht hc).mono ?_
  rintro e w' ⟨rfl, n, rfl⟩
  go_wp2
  go_ret
  exact ⟨rfl, _, rfl⟩

set_option maxHeartbeats 400000 in
theorem settles_read (b : Nat) (s : Int) (h0 : 0 ≤ s) (w : World) (ht : w.cell? ⟨0, 8, none⟩ = some (.int .u8 5)) (hc : w.cell? ⟨b, 3, none⟩ = some (.int .i64 s)) :
    Calls Tryd.prog 8 #[.int .i64 1, .pointer (some ⟨b, 0, none⟩)] w fun e w' => e = .returned (.bool (s == 0 || s == 2)) ∧ ∃ n, w' = w.drewN n := by
  go_enter Tryd.func8, Tryd.ntmps8
  go_wp2_with fail
  go_quiet ((go_at_call 9; exact Calls.quiet_of_same (has_five s h0 _)))
  go_wp2
  go_ret
  exact ⟨rfl, _, rfl⟩

set_option maxHeartbeats 400000 in
theorem zz_read (b : Nat) (s : Int) (h0 : 0 ≤ s) (w : World) (ht : w.cell? ⟨0, 8, none⟩ = some (.int .u8 5)) (hc : w.cell? ⟨b, 3, none⟩ = some (.int .i64 s)) :
    Calls Tryd.prog 7 #[.int .i64 1, .pointer (some ⟨b, 0, none⟩)] w fun e w' => e = .returned (.bool (s == 0 || s == 2)) ∧ ∃ n, w' = w.drewN n := by
  go_enter Tryd.func7, Tryd.ntmps7
  go_wp2_with fail
  refine (settles_read b s h0 _ ht hc).mono ?_
  rintro e w' ⟨rfl, n, rfl⟩
  go_wp2
  go_ret
  exact ⟨rfl, _, rfl⟩

end Go.Proofs.Qxb6614400aDoor
