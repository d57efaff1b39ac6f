/-
  SEAT b6614385a: FnRefusalInjectiveAndNests, walked.
-/
import Derived.Test.Qxb6614385aRefusal
import Derived.Deep.QuietTactic
import Derived.BigQuiet
namespace Go.Proofs.Qxb6614385a
open Go.RowKit

theorem grown_drewN {W w' : World} (h : Grown W w') (n : Nat) : Grown W (w'.drewN n) := h

set_option maxHeartbeats 400000 in
theorem law_parts (a b ra rb rra pre : ByteArray) (ha : a.size ≤ maxLen) (hb : b.size ≤ maxLen) (h : a.size + b.size ≤ 1048576) (era : Hid (ra = ahead ++ a)) (erb : Hid (rb = ahead ++ b)) (erra : Hid (rra = ahead ++ ra))
    (hra : ra.size = a.size + 7) (hrra : rra.size = a.size + 14) (hab : (a.toList == b.toList) = false) (hrab : (ra.toList == rb.toList) = false)
    (hx1 : ra.extract 7 (a.size + 7) = a) (hx2 : rra.extract 7 (a.size + 14) = ra) (hx3 : ra.extract 0 7 = pre) (hx4 : rra.extract 0 7 = pre)
    (w : World) :
    Calls Try.prog 3 #[.string a, .string b] w fun e w' => e = .returned (.bool true) ∧ Grown w w' := by
  have hw1 : IntKind.i64.wrap ((a.size : Int) + 7) = (a.size : Int) + 7 := IntWalk.i64_in _ ⟨by omega, by omega⟩
  have hw2 : IntKind.i64.wrap ((a.size : Int) + 7 + 7) = (a.size : Int) + 14 := by rw [IntWalk.i64_in _ ⟨by omega, by omega⟩]; omega
  go_enter Try.func3, Try.ntmps3
  go_wp2_with fail
  refine (bytes_fit a b ha hb h _).mono ?_
  rintro e w' ⟨rfl, rfl⟩
  go_wp2_with fail
  refine (refusal_at a ra era.out (by omega) _).mono ?_
  rintro e w' ⟨rfl, rfl⟩
  go_wp2_with fail
  refine (refusal_at b rb erb.out (by omega) _).mono ?_
  rintro e w' ⟨rfl, rfl⟩
  go_wp2_with fail
  refine (refusal_at ra rra erra.out (by omega) _).mono ?_
  rintro e w' ⟨rfl, rfl⟩
  go_wp2_with fail
  go_quiet (fail)
  go_wp2
  go_ret
  exact ⟨rfl, grown_drewN (((Grown.refl _).alloc _ _).alloc _ _ |>.alloc _ _) _⟩

set_option maxHeartbeats 400000 in
theorem law_same (a ra rra pre : ByteArray) (ha : a.size ≤ maxLen) (h : a.size + a.size ≤ 1048576) (era : Hid (ra = ahead ++ a)) (erra : Hid (rra = ahead ++ ra))
    (hra : ra.size = a.size + 7) (hrra : rra.size = a.size + 14)
    (hx1 : ra.extract 7 (a.size + 7) = a) (hx2 : rra.extract 7 (a.size + 14) = ra) (hx3 : ra.extract 0 7 = pre) (hx4 : rra.extract 0 7 = pre)
    (w : World) :
    Calls Try.prog 3 #[.string a, .string a] w fun e w' => e = .returned (.bool true) ∧ Grown w w' := by
  have hw1 : IntKind.i64.wrap ((a.size : Int) + 7) = (a.size : Int) + 7 := IntWalk.i64_in _ ⟨by omega, by omega⟩
  have hw2 : IntKind.i64.wrap ((a.size : Int) + 7 + 7) = (a.size : Int) + 14 := by rw [IntWalk.i64_in _ ⟨by omega, by omega⟩]; omega
  go_enter Try.func3, Try.ntmps3
  go_wp2_with fail
  refine (bytes_fit a a ha ha h _).mono ?_
  rintro e w' ⟨rfl, rfl⟩
  go_wp2_with fail
  refine (refusal_at a ra era.out (by omega) _).mono ?_
  rintro e w' ⟨rfl, rfl⟩
  go_wp2_with fail
  refine (refusal_at a ra era.out (by omega) _).mono ?_
  rintro e w' ⟨rfl, rfl⟩
  go_wp2_with fail
  refine (refusal_at ra rra erra.out (by omega) _).mono ?_
  rintro e w' ⟨rfl, rfl⟩
  go_wp2_with fail
  go_quiet (fail)
  go_wp2
  go_ret
  exact ⟨rfl, grown_drewN (((Grown.refl _).alloc _ _).alloc _ _ |>.alloc _ _) _⟩

/-! ### The plain facts -/
theorem ahead_size (s : ByteArray) : (ahead ++ s).size = s.size + 7 := by
  rw [ByteArray.size_append]
  have e : ahead.size = 7 := rfl
  omega
theorem ahead_rest (s : ByteArray) (n : Nat) (h : n = s.size + 7) : (ahead ++ s).extract 7 n = s :=
  ByteArray.extract_append_eq_right rfl (by have e : ahead.size = 7 := rfl
                                            omega)
theorem ahead_first (s : ByteArray) : (ahead ++ s).extract 0 7 = ahead := ByteArray.extract_append_eq_left rfl
theorem ahead_inj {s t : ByteArray} (h : ahead ++ s = ahead ++ t) : s = t := by
  have h1 := ahead_rest s (s.size + 7) rfl
  have h2 := ahead_rest t (t.size + 7) rfl
  have h3 := ahead_size s
  have h4 := ahead_size t
  rw [h] at h1 h3
  rw [← h1, ← h3, h4, h2]
theorem list_inj {s t : ByteArray} (h : s.toList = t.toList) : s = t := by
  rw [ByteArray.toList_eq, ByteArray.toList_eq] at h
  exact WideShapes.bytes_inj h

theorem law_any (a b : ByteArray) (ha : a.size ≤ maxLen) (hb : b.size ≤ maxLen) (w : World) :
    Calls Try.prog 3 #[.string a, .string b] w fun e w' => e = .returned (.bool true) ∧ Grown w w' := by
  by_cases h : a.size + b.size ≤ 1048576
  · have s1 := ahead_size a
    have s2 := ahead_size (ahead ++ a)
    by_cases hab : a = b
    · subst hab
      exact law_same a (ahead ++ a) (ahead ++ (ahead ++ a)) ahead ha h rfl rfl s1 (by omega) (ahead_rest a _ rfl) (ahead_rest _ _ (by omega)) (ahead_first _) (ahead_first _) w
    · exact law_parts a b (ahead ++ a) (ahead ++ b) (ahead ++ (ahead ++ a)) ahead ha hb h rfl rfl rfl s1 (by omega)
        (by rw [beq_eq_false_iff_ne]; exact fun e => hab (list_inj e)) (by rw [beq_eq_false_iff_ne]; exact fun e => hab (ahead_inj (list_inj e)))
        (ahead_rest a _ rfl) (ahead_rest _ _ (by omega)) (ahead_first _) (ahead_first _) w
  · exact law_over a b ha hb (by omega) w
end Go.Proofs.Qxb6614385a
