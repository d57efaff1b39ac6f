/-
  SEAT b6614365aF: FnRangeStringInjective, walked over the contracts of String and zzDecLen.
-/
import Derived.Test.Qxb6614365aFmtString
import Derived.Test.Qxb6614365aFmtDecLen
namespace Go.Proofs.Qxb6614365aFmt
open Go.RowKit Go.Lib Go.PlainAid Go.Extern.Stop Go.Stop Go.Extern

theorem string_of (F : Interp) (a b : Int) (s : ByteArray) (hs : s = txt a b) (wa : (Lit.int .i64 a).wf = true) (wb : (Lit.int .i64 b).wf = true) (w : World) (hF : F.told.answers w.tape) :
    Calls Tryf.prog 5 #[.agg #[.int .i64 a, .int .i64 b]] w fun e w' => e = .returned (.string s) ∧
      w' = ((w.alloc (.cells #[.int .i64 a, .int .i64 b] 23)).alloc (.cells #[.iface 3 (.int .i64 a), .iface 3 (.int .i64 b)] 20)).drew := by
  rw [hs]; exact string_told F a b wa wb w hF

set_option maxHeartbeats 400000 in
theorem inj_same (F : Interp) (a b : Int) (wa : (Lit.int .i64 a).wf = true) (wb : (Lit.int .i64 b).wf = true)
    (ha0 : -9223372036854775808 ≤ a) (ha1 : a ≤ 9223372036854775807) (hb0 : -9223372036854775808 ≤ b) (hb1 : b ≤ 9223372036854775807)
    (s : ByteArray) (hs : Hid (s = txt a b)) (la lb : Nat) (hla : Hid ((itoa a).length = la)) (hlb : Hid ((itoa b).length = lb)) (hsz : (s.size : Int) = la + 1 + lb) (hla1 : la ≤ 21) (hlb1 : lb ≤ 21)
    (w : World) (hF : F.told.answers w.tape) :
    Calls Tryf.prog 4 #[.int .i64 a, .int .i64 b, .int .i64 a, .int .i64 b] w fun e w' => e = .returned (.bool true) ∧ Grown w w' := by
  go_enter Tryf.func4, Tryf.ntmps4
  go_wp2_with fail
  refine (string_of F a b s hs.out wa wb _ hF).mono ?_
  rintro e w' ⟨rfl, rfl⟩
  go_wp2_with fail
  refine (string_of F a b s hs.out wa wb _ (by exact hF)).mono ?_
  rintro e w' ⟨rfl, rfl⟩
  go_wp2_with fail
  refine (declen_any a la hla.out ha0 ha1 _).mono ?_
  rintro e w' ⟨rfl, rfl⟩
  go_wp2_with fail
  refine (declen_any b lb hlb.out hb0 hb1 _).mono ?_
  rintro e w' ⟨rfl, rfl⟩
  go_wp2
  go_ret
  exact ⟨rfl, by repeat (first | exact Grown.refl _ | apply Grown.drew | apply Grown.alloc)⟩

set_option maxHeartbeats 400000 in
theorem inj_first (F : Interp) (a b c d : Int) (wa : (Lit.int .i64 a).wf = true) (wb : (Lit.int .i64 b).wf = true) (wc : (Lit.int .i64 c).wf = true) (wd : (Lit.int .i64 d).wf = true)
    (ha0 : -9223372036854775808 ≤ a) (ha1 : a ≤ 9223372036854775807) (hb0 : -9223372036854775808 ≤ b) (hb1 : b ≤ 9223372036854775807)
    (s t : ByteArray) (hs : Hid (s = txt a b)) (ht : Hid (t = txt c d)) (hac : (a == c) = false) (hst : (s.toList == t.toList) = false) (la lb : Nat) (hla : Hid ((itoa a).length = la)) (hlb : Hid ((itoa b).length = lb)) (hsz : (s.size : Int) = la + 1 + lb) (hla1 : la ≤ 21) (hlb1 : lb ≤ 21)
    (w : World) (hF : F.told.answers w.tape) :
    Calls Tryf.prog 4 #[.int .i64 a, .int .i64 b, .int .i64 c, .int .i64 d] w fun e w' => e = .returned (.bool true) ∧ Grown w w' := by
  go_enter Tryf.func4, Tryf.ntmps4
  go_wp2_with fail
  refine (string_of F a b s hs.out wa wb _ hF).mono ?_
  rintro e w' ⟨rfl, rfl⟩
  go_wp2_with fail
  refine (string_of F c d t ht.out wc wd _ (by exact hF)).mono ?_
  rintro e w' ⟨rfl, rfl⟩
  go_wp2_with fail
  refine (declen_any a la hla.out ha0 ha1 _).mono ?_
  rintro e w' ⟨rfl, rfl⟩
  go_wp2_with fail
  refine (declen_any b lb hlb.out hb0 hb1 _).mono ?_
  rintro e w' ⟨rfl, rfl⟩
  go_wp2
  go_ret
  exact ⟨rfl, by repeat (first | exact Grown.refl _ | apply Grown.drew | apply Grown.alloc)⟩

set_option maxHeartbeats 400000 in
theorem inj_last (F : Interp) (a b d : Int) (wa : (Lit.int .i64 a).wf = true) (wb : (Lit.int .i64 b).wf = true) (wd : (Lit.int .i64 d).wf = true)
    (ha0 : -9223372036854775808 ≤ a) (ha1 : a ≤ 9223372036854775807) (hb0 : -9223372036854775808 ≤ b) (hb1 : b ≤ 9223372036854775807)
    (s t : ByteArray) (hs : Hid (s = txt a b)) (ht : Hid (t = txt a d)) (hbd : (b == d) = false) (hst : (s.toList == t.toList) = false) (la lb : Nat) (hla : Hid ((itoa a).length = la)) (hlb : Hid ((itoa b).length = lb)) (hsz : (s.size : Int) = la + 1 + lb) (hla1 : la ≤ 21) (hlb1 : lb ≤ 21)
    (w : World) (hF : F.told.answers w.tape) :
    Calls Tryf.prog 4 #[.int .i64 a, .int .i64 b, .int .i64 a, .int .i64 d] w fun e w' => e = .returned (.bool true) ∧ Grown w w' := by
  go_enter Tryf.func4, Tryf.ntmps4
  go_wp2_with fail
  refine (string_of F a b s hs.out wa wb _ hF).mono ?_
  rintro e w' ⟨rfl, rfl⟩
  go_wp2_with fail
  refine (string_of F a d t ht.out wa wd _ (by exact hF)).mono ?_
  rintro e w' ⟨rfl, rfl⟩
  go_wp2_with fail
  refine (declen_any a la hla.out ha0 ha1 _).mono ?_
  rintro e w' ⟨rfl, rfl⟩
  go_wp2_with fail
  refine (declen_any b lb hlb.out hb0 hb1 _).mono ?_
  rintro e w' ⟨rfl, rfl⟩
  go_wp2
  go_ret
  exact ⟨rfl, by repeat (first | exact Grown.refl _ | apply Grown.drew | apply Grown.alloc)⟩

end Go.Proofs.Qxb6614365aFmt
