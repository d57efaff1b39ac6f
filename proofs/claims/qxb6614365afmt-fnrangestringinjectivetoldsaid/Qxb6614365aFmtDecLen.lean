/-
  SEAT b6614365aF: zzDecLen, walked: the length of the decimal.
-/
import Derived.Test.Qxb6614365aFmtRows
import Derived.Test.Qxb6614365aFmtPlain
import Derived.WalkKit
import Derived.WalkSpells
import Derived.Handy
import Derived.Outline
namespace Go.Proofs.Qxb6614365aFmt
open Go.RowKit Go.Lib Go.PlainAid

theorem int_is {k : IntKind} {a b : Int} (h : a = b) : Value.int k a = Value.int k b := by rw [h]
theorem ret_is {k : IntKind} {a b : Int} (h : a = b) : Ending.returned (.int k a) = .returned (.int k b) := by rw [h]

set_option maxHeartbeats 400000 in
theorem declen_neg (u : Nat) (L : Nat) (hL : Hid (L = nDigits u + 1)) (hL1 : L ≤ 21) (hu1 : 1 ≤ u) (hu : u ≤ 9223372036854775808) (w : World) :
    Calls Tryf.prog 7 #[.int .i64 (-(u : Int))] w fun e w' => e = .returned (.int .i64 L) ∧ w' = w := by
  go_enter Tryf.func7, Tryf.ntmps7
  go_wp2
  go_loop [3, 4] (fun n v => ∃ t k : Nat, t ≤ 9223372036854775808 ∧ k ≤ 22 ∧ v = .int .i64 (-(t : Int)) ∧ n = .int .i64 k ∧ Hid (k + nDigits t = L + 1)) (fun _ v => (intOf v).natAbs)
  case atStart => exact ⟨u, 2, hu, by omega, rfl, rfl, by have := hL.out; show 2 + nDigits u = L + 1; omega⟩
  case round =>
    obtain ⟨t, k, ht, hk, rfl, rfl, hkt⟩ := hrel
    by_cases hlt : 10 ≤ t
    · go_wp2
      refine ⟨⟨t / 10, k + 1, by omega, ?_, int_is (by omega), int_is (by omega), ?_⟩, by simp [intOf]; omega⟩
      · have := hkt.out; have := nDigits_pos t; omega
      · have := hkt.out; rw [nDigits_big (by omega)] at this; show k + 1 + nDigits (t / 10) = L + 1; omega
    · go_wp2
      go_ret
      exact ⟨ret_is (by have := hkt.out; rw [nDigits_small (by omega)] at this; omega), rfl⟩

set_option maxHeartbeats 400000 in
theorem declen_pos (u : Nat) (L : Nat) (hL : Hid (L = nDigits u)) (hL1 : L ≤ 21) (hu1 : 1 ≤ u) (hu : u ≤ 9223372036854775807) (w : World) :
    Calls Tryf.prog 7 #[.int .i64 (u : Int)] w fun e w' => e = .returned (.int .i64 L) ∧ w' = w := by
  go_enter Tryf.func7, Tryf.ntmps7
  go_wp2
  go_loop [3, 4] (fun n v => ∃ t k : Nat, t ≤ 9223372036854775808 ∧ k ≤ 22 ∧ v = .int .i64 (-(t : Int)) ∧ n = .int .i64 k ∧ Hid (k + nDigits t = L + 1)) (fun _ v => (intOf v).natAbs)
  case atStart => exact ⟨u, 1, by omega, by omega, rfl, rfl, by have := hL.out; show 1 + nDigits u = L + 1; omega⟩
  case round =>
    obtain ⟨t, k, ht, hk, rfl, rfl, hkt⟩ := hrel
    by_cases hlt : 10 ≤ t
    · go_wp2
      refine ⟨⟨t / 10, k + 1, by omega, ?_, int_is (by omega), int_is (by omega), ?_⟩, by simp [intOf]; omega⟩
      · have := hkt.out; have := nDigits_pos t; omega
      · have := hkt.out; rw [nDigits_big (by omega)] at this; show k + 1 + nDigits (t / 10) = L + 1; omega
    · go_wp2
      go_ret
      exact ⟨ret_is (by have := hkt.out; rw [nDigits_small (by omega)] at this; omega), rfl⟩

set_option maxHeartbeats 400000 in
theorem declen_zero (w : World) : Calls Tryf.prog 7 #[.int .i64 0] w fun e w' => e = .returned (.int .i64 1) ∧ w' = w := by
  go_enter Tryf.func7, Tryf.ntmps7
  go_wp2
  refine wp_loop_rounds 1 ?_
  rw [rounds_succ]
  go_wp2
  go_ret
  exact ⟨rfl, rfl⟩

/-- THE CONTRACT: zzDecLen gives the length of the decimal, its sign with it. -/
theorem declen_any (x : Int) (n : Nat) (hn : (itoa x).length = n) (h0 : -9223372036854775808 ≤ x) (h1 : x ≤ 9223372036854775807) (w : World) :
    Calls Tryf.prog 7 #[.int .i64 x] w fun e w' => e = .returned (.int .i64 n) ∧ w' = w := by
  have hl := itoa_length x
  have hb := Lib.itoa_length_le x h0 h1
  by_cases hx : x < 0
  · rw [if_pos hx] at hl
    obtain ⟨u, hu⟩ : ∃ u : Nat, x = -(u : Int) := ⟨x.natAbs, by omega⟩
    have e : x.natAbs = u := by omega
    rw [e] at hl
    rw [hu]
    exact declen_neg u n (by show n = nDigits u + 1; omega) (by omega) (by omega) (by omega) w
  · rw [if_neg hx] at hl
    by_cases hz : x = 0
    · subst hz
      have e : n = 1 := by rw [← hn]; rw [itoa_of_pos (by omega)]; rw [decDigits_length]; exact nDigits_small (by decide)
      rw [e]
      exact declen_zero w
    · obtain ⟨u, hu⟩ : ∃ u : Nat, x = (u : Int) := ⟨x.natAbs, by omega⟩
      have e : x.natAbs = u := by omega
      rw [e] at hl
      rw [hu]
      exact declen_pos u n (by show n = nDigits u; omega) (by omega) (by omega) (by omega) w
end Go.Proofs.Qxb6614365aFmt
