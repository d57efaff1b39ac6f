/-
  SEAT b6614385a: ZZRefusalOf, walked: "error: " and the message.
-/
import Derived.Test.Qxb6614385aRows
import Derived.WalkKit
import Derived.WalkSpells
import Derived.Handy
import Derived.Outline
namespace Go.Proofs.Qxb6614385a
open Go.RowKit

/-- What stands ahead of every refusal. -/
def ahead : ByteArray := ⟨#[101, 114, 114, 111, 114, 58, 32]⟩

set_option maxHeartbeats 400000 in
theorem refusal_any (s : ByteArray) (hs : s.size ≤ 4000000) (w : World) :
    Calls Try.prog 5 #[.string s] w fun e w' => e = .returned (.string (ahead ++ s)) ∧ w' = w.alloc (.cells #[.string s] 31) := by
  go_enter Try.func5, Try.ntmps5
  go_wp2
  go_ret
  exact ⟨rfl, rfl⟩

theorem refusal_at (s r : ByteArray) (hr : r = ahead ++ s) (hs : s.size ≤ 4000000) (w : World) :
    Calls Try.prog 5 #[.string s] w fun e w' => e = .returned (.string r) ∧ w' = w.alloc (.cells #[.string s] 31) := by
  rw [hr]; exact refusal_any s hs w

theorem bytes_fit (a b : ByteArray) (ha : a.size ≤ maxLen) (hb : b.size ≤ maxLen) (h : a.size + b.size ≤ 1048576) (w : World) :
    Calls Try.prog 4 #[.string a, .string b] w fun e w' => e = .returned (.bool true) ∧ w' = w := by
  unfold maxLen at ha hb
  go_enter Try.func4, Try.ntmps4
  go_wp2
  go_ret
  exact ⟨rfl, rfl⟩
theorem bytes_over (a b : ByteArray) (ha : a.size ≤ maxLen) (hb : b.size ≤ maxLen) (h : 1048576 < a.size + b.size) (w : World) :
    Calls Try.prog 4 #[.string a, .string b] w fun e w' => e = .returned (.bool false) ∧ w' = w := by
  unfold maxLen at ha hb
  by_cases h1 : 1048576 < a.size
  · go_enter Try.func4, Try.ntmps4
    go_wp2
    go_ret
    exact ⟨rfl, rfl⟩
  by_cases h2 : 1048576 < b.size
  · go_enter Try.func4, Try.ntmps4
    go_wp2
    go_ret
    exact ⟨rfl, rfl⟩
  · go_enter Try.func4, Try.ntmps4
    go_wp2
    go_ret
    exact ⟨rfl, rfl⟩
theorem law_over (a b : ByteArray) (ha : a.size ≤ maxLen) (hb : b.size ≤ maxLen) (h : 1048576 < a.size + b.size) (w : World) :
    Calls Try.prog 3 #[.string a, .string b] w fun e w' => e = .returned (.bool true) ∧ Grown w w' := by
  go_enter Try.func3, Try.ntmps3
  go_wp2_with fail
  refine (bytes_over a b ha hb h _).mono ?_
  rintro e w' ⟨rfl, rfl⟩
  go_wp2
  go_ret
  exact ⟨rfl, Grown.refl _⟩
end Go.Proofs.Qxb6614385a
