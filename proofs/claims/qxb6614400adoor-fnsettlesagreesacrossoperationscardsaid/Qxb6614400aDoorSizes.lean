/-
  SEAT b6614400aD: the two bounds on length (zzBytes, b1OneInstOver), walked.
-/
import Derived.Test.Qxb6614400aDoorHas
import Derived.Deep.QuietTactic
import Derived.BigQuiet
namespace Go.Proofs.Qxb6614400aDoor
open Go.RowKit

theorem bytes_nil (op : Int) (w : World) :
    Calls Tryd.prog 4 #[.int .i64 op, .pointer none] w fun e w' => e = .returned (.bool true) ∧ w' = w := by
  go_enter Tryd.func4, Tryd.ntmps4
  go_wp2
  go_ret
  exact ⟨rfl, rfl⟩

set_option maxHeartbeats 1000000 in
theorem bytes_any (op : Int) (b o : Nat) (s0 s1 s2 : ByteArray) (ta : Option Addr) (tl tc : Nat) (w : World) (h0 : s0.size ≤ maxLen) (h1 : s1.size ≤ maxLen) (h2 : s2.size ≤ maxLen) (h4 : tl ≤ maxLen)
    (c0 : w.cell? ⟨b, o, none⟩ = some (.string s0)) (c1 : w.cell? ⟨b, o + 1, none⟩ = some (.string s1)) (c2 : w.cell? ⟨b, o + 2, none⟩ = some (.string s2)) (c4 : w.cell? ⟨b, o + 4, none⟩ = some (.slice ta tl tc)) :
    Calls Tryd.prog 4 #[.int .i64 op, .pointer (some ⟨b, o, none⟩)] w fun e w' => (e = .returned (.bool false) ∨ e = .returned (.bool true) ∧ s0.size + s1.size + s2.size + tl ≤ 1048576) ∧ w' = w := by
  unfold maxLen at h0 h1 h2 h4
  go_enter Tryd.func4, Tryd.ntmps4
  go_wp2
  all_goals go_ret
  all_goals first | exact ⟨Or.inl rfl, rfl⟩ | exact ⟨Or.inr ⟨rfl, by omega⟩, rfl⟩

set_option maxHeartbeats 1000000 in
theorem over_any (b o : Nat) (s0 s1 s2 : ByteArray) (ta : Option Addr) (tl tc : Nat) (w : World) (h : s0.size + s1.size + s2.size + tl ≤ 1048576)
    (c0 : w.cell? ⟨b, o, none⟩ = some (.string s0)) (c1 : w.cell? ⟨b, o + 1, none⟩ = some (.string s1)) (c2 : w.cell? ⟨b, o + 2, none⟩ = some (.string s2)) (c4 : w.cell? ⟨b, o + 4, none⟩ = some (.slice ta tl tc)) :
    Calls Tryd.prog 5 #[.pointer (some ⟨b, o, none⟩)] w fun e w' => ∃ r : Bool, e = .returned (.bool r) ∧ ∃ n, w' = w.drewN n := by
  go_enter Tryd.func5, Tryd.ntmps5
  go_wp2
  go_quiet (fail)
  go_wp2
  go_ret
  exact ⟨_, rfl, _, rfl⟩
end Go.Proofs.Qxb6614400aDoor
