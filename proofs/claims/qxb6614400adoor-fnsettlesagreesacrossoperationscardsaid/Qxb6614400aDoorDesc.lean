/-
  SEAT b6614400aD: b1Desc (deep = false), walked: a struct of the seven fields.
-/
import Derived.Test.Qxb6614400aDoorRows
import Derived.WalkKit
import Derived.WalkSpells
import Derived.Handy
import Derived.Outline
import Derived.BigRegion
import Derived.Deep.QuietTactic
import Derived.BigQuiet
import Derived.Deep.RegionHeld
namespace Go.Proofs.Qxb6614400aDoor
open Go.RowKit

set_option maxHeartbeats 1000000 in
theorem desc_any (b o : Nat) (s0 s1 s2 : ByteArray) (st r h : Int) (ta : Option Addr) (tl tc : Nat) (w : World)
    (c0 : w.cell? ⟨b, o, none⟩ = some (.string s0)) (c1 : w.cell? ⟨b, o + 1, none⟩ = some (.string s1)) (c2 : w.cell? ⟨b, o + 2, none⟩ = some (.string s2))
    (c3 : w.cell? ⟨b, o + 3, none⟩ = some (.int .i64 st)) (c4 : w.cell? ⟨b, o + 4, none⟩ = some (.slice ta tl tc)) (c5 : w.cell? ⟨b, o + 5, none⟩ = some (.int .i64 r)) (c6 : w.cell? ⟨b, o + 6, none⟩ = some (.int .i64 h)) (hb : b < w.heap.size) :
    Calls Tryd.prog 6 #[.pointer (some ⟨b, o, none⟩), .bool false] w fun e w' => e = .returned (.agg #[.string s0, .string s1, .string s2, .int .i64 st, .slice ta tl tc, .int .i64 r, .int .i64 h]) ∧
      w' = (w.alloc (.cells #[.string s0, .string s1, .string s2, .int .i64 st, .slice ta tl tc, .int .i64 r, .int .i64 h] 30)).drew := by
  go_enter Tryd.func6, Tryd.ntmps6
  go_wp2
  go_region_held (fun w' => w'.cell? ⟨b, o, none⟩ = some (.string s0) ∧ w'.cell? ⟨b, o + 1, none⟩ = some (.string s1) ∧ w'.cell? ⟨b, o + 2, none⟩ = some (.string s2) ∧ w'.cell? ⟨b, o + 3, none⟩ = some (.int .i64 st) ∧ w'.cell? ⟨b, o + 5, none⟩ = some (.int .i64 r) ∧ w'.cell? ⟨b, o + 6, none⟩ = some (.int .i64 h)) (go_keep) (fail)
  go_wp2
  exact bodyPost_ret (v := .agg #[.string s0, .string s1, .string s2, .int .i64 st, .slice ta tl tc, .int .i64 r, .int .i64 h]) (by simp [results, Tryd.results6, go_sem]) rfl ⟨rfl, rfl⟩
end Go.Proofs.Qxb6614400aDoor
