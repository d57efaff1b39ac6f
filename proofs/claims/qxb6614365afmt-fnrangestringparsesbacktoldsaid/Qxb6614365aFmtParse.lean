/-
  SEAT b6614365aF: zzParseDec, walked: at a place that opens the numeral of x it reads x, to the numeral's end.
-/
import Derived.Test.Qxb6614365aFmtRows
import Derived.Test.Qxb6614365aFmtPlain
import Derived.WalkKit
import Derived.WalkSpells
import Derived.Handy
import Derived.Outline
namespace Go.Proofs.Qxb6614365aFmt
open Go.RowKit Go.Lib Go.PlainAid

/-- What a round knows of the next digit, in the walk's own forms. -/
theorem digit_facts {s : ByteArray} {st u m : Nat} (h : Numeral s st u) (hu : u ≤ 9223372036854775808) (hm : m < nDigits u) :
    st + m < s.size ∧ 48 ≤ bt s (st + m) ∧ bt s (st + m) ≤ 57 ∧ pv u m ≤ 922337203685477580 ∧
      (pv u m : Int) * 10 + (bt s (st + m) - 48) ≤ 9223372036854775808 ∧ (pv u m : Int) * 10 + (bt s (st + m) - 48) = (pv u (m + 1) : Int) := by
  have h1 := h.dig m hm
  have h2 := pv_succ u m hm
  have h3 := pv_le u (m + 1)
  have h4 := h.fits
  omega

/-- The first digit of a numeral of two digits or more is no zero. -/
theorem first_facts {s : ByteArray} {st u : Nat} (h : Numeral s st u) (h1 : 1 < nDigits u) : 49 ≤ bt s st := by
  have h2 := h.dig 0 (by omega)
  have h3 := pv_one_lt u
  have h4 : 1 ≤ u := by
    rcases Nat.eq_zero_or_pos u with h0 | h0
    · rw [h0, nDigits_small (by omega)] at h1; omega
    · exact h0
  have h5 := pv_one_pos u h4
  simp only [Nat.add_zero, Nat.zero_add] at h2
  omega

theorem int_eq {k : IntKind} {a b : Int} (h : a = b) : Value.int k a = Value.int k b := by rw [h]
theorem ret3_int {a a' b b' : Int} {c : Bool} (h1 : a = a') (h2 : b = b') : Ending.returned (.tuple #[.int .i64 a, .int .i64 b, .bool c]) = .returned (.tuple #[.int .i64 a', .int .i64 b', .bool c]) := by rw [h1, h2]

set_option maxHeartbeats 400000 in
theorem parse_pos (s : ByteArray) (st u : Nat) (hs : s.size ≤ 1000) (h : Numeral s st u) (hu : u ≤ 9223372036854775807) (w : World) :
    Calls Tryf.prog 6 #[.string s, .int .i64 st] w fun e w' => e = .returned (.tuple #[.int .i64 u, .int .i64 ((st : Int) + (nDigits u : Int)), .bool true]) ∧ w' = w := by
  have hb := get_bt s
  have hnp := nDigits_pos u
  have hfit := h.fits
  obtain ⟨f1, f2, f3, -, -, -⟩ := digit_facts h (by omega) (m := 0) (by omega)
  simp only [Nat.add_zero] at f1 f2 f3
  go_enter Tryf.func6, Tryf.ntmps6
  go_wp2
  go_loop [1, 9] (fun i acc => ∃ m : Nat, m ≤ nDigits u ∧ i = .int .i64 ((st + m : Nat) : Int) ∧ acc = .int .i64 (-(pv u m : Int))) (fun i _ => s.size - (intOf i).toNat)
  case atStart => exact ⟨0, Nat.zero_le _, rfl, by rw [pv_zero]; rfl⟩
  case round =>
    obtain ⟨m, hm, rfl, rfl⟩ := hrel
    by_cases hlt : m < nDigits u
    · obtain ⟨g1, g2, g3, g4, g5, g6⟩ := digit_facts h (by omega) hlt
      have H6 : Hid ((pv u m : Int) * 10 + (bt s (st + m) - 48) = (pv u (m + 1) : Int)) := g6
      clear g6
      go_wp2
      go_round
      case rel => exact ⟨_, _, _, _, _, ⟨m + 1, by omega, int_eq (by omega), int_eq (by have := H6.out; omega)⟩, rfl, rfl, rfl, rfl, rfl⟩
      case measure => simp [intOf]; omega
    · obtain rfl : m = nDigits u := by omega
      have hp := pv_full u
      have hst := h.stop
      by_cases h1 : 1 < nDigits u
      · have h0 := first_facts h h1
        by_cases hl : st + nDigits u < s.size
        · have h45 := hst hl
          have h46 : bt s (st + nDigits u) < 48 := by omega
          clear hst h45
          go_wp2
          go_ret3
          exact ⟨ret3_int (by omega) (by omega), rfl⟩
        · clear hst
          go_wp2
          go_ret3
          exact ⟨ret3_int (by omega) (by omega), rfl⟩
      · by_cases hl : st + nDigits u < s.size
        · have h45 := hst hl
          have h46 : bt s (st + nDigits u) < 48 := by omega
          clear hst h45
          go_wp2
          go_ret3
          exact ⟨ret3_int (by omega) (by omega), rfl⟩
        · clear hst
          go_wp2
          go_ret3
          exact ⟨ret3_int (by omega) (by omega), rfl⟩

set_option maxHeartbeats 400000 in
theorem parse_neg (s : ByteArray) (i u : Nat) (hs : s.size ≤ 1000) (hi : i < s.size) (hi45 : (bt s i == 45) = true) (h : Numeral s (i + 1) u) (hu1 : 1 ≤ u) (hu : u ≤ 9223372036854775808) (w : World) :
    Calls Tryf.prog 6 #[.string s, .int .i64 i] w fun e w' => e = .returned (.tuple #[.int .i64 (-(u : Int)), .int .i64 ((i : Int) + 1 + (nDigits u : Int)), .bool true]) ∧ w' = w := by
  have hb := get_bt s
  have hnp := nDigits_pos u
  have hfit := h.fits
  go_enter Tryf.func6, Tryf.ntmps6
  go_wp2
  go_loop [1, 9] (fun j acc => ∃ m : Nat, m ≤ nDigits u ∧ j = .int .i64 ((i + 1 + m : Nat) : Int) ∧ acc = .int .i64 (-(pv u m : Int))) (fun j _ => s.size - (intOf j).toNat)
  case atStart => exact ⟨0, Nat.zero_le _, rfl, by rw [pv_zero]; rfl⟩
  case round =>
    obtain ⟨m, hm, rfl, rfl⟩ := hrel
    by_cases hlt : m < nDigits u
    · obtain ⟨g1, g2, g3, g4, g5, g6⟩ := digit_facts h (by omega) hlt
      have H6 : Hid ((pv u m : Int) * 10 + (bt s (i + 1 + m) - 48) = (pv u (m + 1) : Int)) := g6
      clear g6
      go_wp2
      go_round
      case rel => exact ⟨m + 1, by omega, int_eq (by omega), int_eq (by have := H6.out; omega)⟩
      case measure => simp [intOf]; omega
    · obtain rfl : m = nDigits u := by omega
      have hp := pv_full u
      have hst := h.stop
      by_cases h1 : 1 < nDigits u
      · have h0 := first_facts h h1
        by_cases hl : i + 1 + nDigits u < s.size
        · have h45 := hst hl
          have h46 : bt s (i + 1 + nDigits u) < 48 := by omega
          clear hst h45
          go_wp2
          go_ret3
          exact ⟨ret3_int (by omega) (by omega), rfl⟩
        · clear hst
          go_wp2
          go_ret3
          exact ⟨ret3_int (by omega) (by omega), rfl⟩
      · by_cases hl : i + 1 + nDigits u < s.size
        · have h45 := hst hl
          have h46 : bt s (i + 1 + nDigits u) < 48 := by omega
          clear hst h45
          go_wp2
          go_ret3
          exact ⟨ret3_int (by omega) (by omega), rfl⟩
        · clear hst
          go_wp2
          go_ret3
          exact ⟨ret3_int (by omega) (by omega), rfl⟩

/-- THE CONTRACT: at a place that opens the numeral of x, zzParseDec reads x and stands behind the numeral. -/
theorem parse_any (s : ByteArray) (i : Nat) (x : Int) (hs : s.size ≤ 1000) (h : Spells s i x) (h0 : -9223372036854775808 ≤ x) (h1 : x ≤ 9223372036854775807) (w : World) :
    Calls Tryf.prog 6 #[.string s, .int .i64 i] w fun e w' => e = .returned (.tuple #[.int .i64 x, .int .i64 ((i : Int) + ((itoa x).length : Int)), .bool true]) ∧ w' = w := by
  have hl := itoa_length x
  by_cases hx : x < 0
  · obtain ⟨a, b, c⟩ := h.neg hx
    refine (parse_neg s i x.natAbs hs a (by rw [b]; rfl) c (by omega) (by omega) w).mono fun e w' ⟨he, hw⟩ => ⟨?_, hw⟩
    rw [if_pos hx] at hl
    rw [he]
    exact ret3_int (by omega) (by omega)
  · refine (parse_pos s i x.natAbs hs (h.pos (by omega)) (by omega) w).mono fun e w' ⟨he, hw⟩ => ⟨?_, hw⟩
    rw [if_neg hx] at hl
    rw [he]
    exact ret3_int (by omega) (by omega)
end Go.Proofs.Qxb6614365aFmt
