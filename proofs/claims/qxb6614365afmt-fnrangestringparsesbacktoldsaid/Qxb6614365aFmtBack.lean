/-
  SEAT b6614365aF: FnRangeStringParsesBack, walked over the contracts of String and zzParseDec.
-/
import Derived.Test.Qxb6614365aFmtString
import Derived.Test.Qxb6614365aFmtParse
namespace Go.Proofs.Qxb6614365aFmt
open Go.RowKit Go.Lib Go.PlainAid Go.Extern.Stop Go.Stop Go.Extern

/-- zzParseDec's contract at a place that is given as a number. -/
theorem parse_at (s : ByteArray) (j : Int) (x : Int) (n : Nat) (hj : 0 ≤ j) (hs : s.size ≤ 1000) (h : Spells s j.toNat x) (h0 : -9223372036854775808 ≤ x) (h1 : x ≤ 9223372036854775807) (hn : (itoa x).length = n) (w : World) :
    Calls Tryf.prog 6 #[.string s, .int .i64 j] w fun e w' => e = .returned (.tuple #[.int .i64 x, .int .i64 (j + (n : Int)), .bool true]) ∧ w' = w := by
  have e : ((j.toNat : Nat) : Int) = j := by omega
  have := parse_any s j.toNat x hs h h0 h1 w
  rw [e, hn] at this
  exact this

theorem string_at (F : Interp) (a b : Int) (s : ByteArray) (hs : s = txt a b) (wa : (Lit.int .i64 a).wf = true) (wb : (Lit.int .i64 b).wf = true) (w : World) (hF : F.told.answers w.tape) :
    Calls Tryf.prog 5 #[.agg #[.int .i64 a, .int .i64 b]] w fun e w' => e = .returned (.string s) ∧
      w' = ((w.alloc (.cells #[.int .i64 a, .int .i64 b] 23)).alloc (.cells #[.iface 3 (.int .i64 a), .iface 3 (.int .i64 b)] 20)).drew := by
  rw [hs]; exact string_told F a b wa wb w hF

set_option maxHeartbeats 400000 in
theorem back_walk (F : Interp) (a b : Int) (wa : (Lit.int .i64 a).wf = true) (wb : (Lit.int .i64 b).wf = true)
    (ha0 : -9223372036854775808 ≤ a) (ha1 : a ≤ 9223372036854775807) (hb0 : -9223372036854775808 ≤ b) (hb1 : b ≤ 9223372036854775807)
    (s : ByteArray) (hs : Hid (s = txt a b)) (la lb : Nat) (hla : Hid ((itoa a).length = la)) (hlb : Hid ((itoa b).length = lb)) (hsz : (s.size : Int) = la + 1 + lb) (hla1 : la ≤ 21) (hlb1 : lb ≤ 21)
    (hd : (bt s la != 45) = false) (w : World) (hF : F.told.answers w.tape) :
    Calls Tryf.prog 3 #[.int .i64 a, .int .i64 b] w fun e w' => e = .returned (.bool true) ∧
      w' = ((w.alloc (.cells #[.int .i64 a, .int .i64 b] 23)).alloc (.cells #[.iface 3 (.int .i64 a), .iface 3 (.int .i64 b)] 20)).drew := by
  have hb := get_bt s
  have hl : s.size ≤ 1000 := by omega
  have h1 : Spells s 0 a := by rw [hs.out]; exact spells_first a b
  have h2 : Spells s (la + 1) b := by rw [hs.out, ← hla.out]; exact spells_last a b
  go_enter Tryf.func3, Tryf.ntmps3
  go_wp2_with fail
  refine (string_at F a b s hs.out wa wb _ hF).mono ?_
  rintro e w' ⟨rfl, rfl⟩
  go_wp2_with fail
  refine (parse_at s 0 a la (by omega) hl h1 ha0 ha1 hla.out _).mono ?_
  rintro e w' ⟨rfl, rfl⟩
  go_wp2_with fail
  refine (parse_at s ((la : Int) + 1) b lb (by omega) hl (by exact h2) hb0 hb1 hlb.out _).mono ?_
  rintro e w' ⟨rfl, rfl⟩
  go_wp2
  go_ret
  exact ⟨rfl, rfl⟩
end Go.Proofs.Qxb6614365aFmt
