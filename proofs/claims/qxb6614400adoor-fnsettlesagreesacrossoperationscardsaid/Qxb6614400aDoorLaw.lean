/-
  SEAT b6614400aD: FnSettlesAgreesAcrossOperations, walked over the contracts of what it calls.
-/
import Derived.Test.Qxb6614400aDoorSizes
import Derived.Test.Qxb6614400aDoorSettles
import Derived.Test.Qxb6614400aDoorDesc
namespace Go.Proofs.Qxb6614400aDoor
open Go.RowKit

theorem old_two (w : World) (n : Nat) (X Y : Obj) (k i : Nat) (hk : k < w.heap.size) : (((w.drewN n).alloc X).alloc Y).cell? ⟨k, i, none⟩ = w.cell? ⟨k, i, none⟩ := by
  have e : ((w.drewN n).alloc X).heap.size = w.heap.size + 1 := by simp [World.alloc]
  rw [World.cell?_alloc_past _ _ _ (show k < ((w.drewN n).alloc X).heap.size by omega), World.cell?_alloc_past _ _ _ (show k < (w.drewN n).heap.size from hk)]
  rfl
theorem below_draws {B : Nat} {W w' : World} (h : Below B W w') (n : Nat) : Below B W (w'.drewN n) := ⟨h.os, h.tape, h.output, h.size, h.block⟩

theorem below_two (w : World) (n : Nat) (X Y : Obj) : Below w.heap.size w (((w.drewN n).alloc X).alloc Y) := by
  have e : ((w.drewN n).alloc X).heap.size = w.heap.size + 1 := by simp [World.alloc]
  exact (Below.alloc (below_draws (Below.refl _ _) n) (Nat.le_refl w.heap.size) X).alloc (Nat.le_of_lt (by rw [e]; exact Nat.lt_succ_self _)) Y

theorem law_nil (op : Int) (w : World) :
    Calls Tryd.prog 3 #[.int .i64 op, .pointer none] w fun e w' => e = .returned (.bool true) ∧ Below w.heap.size w w' := by
  go_enter Tryd.func3, Tryd.ntmps3
  go_wp2_with fail
  refine (bytes_nil op _).mono ?_
  rintro e w' ⟨rfl, rfl⟩
  go_wp2
  go_ret
  exact ⟨rfl, Below.refl _ _⟩

set_option maxHeartbeats 1000000 in
theorem law_write (b o : Nat) (s0 s1 s2 : ByteArray) (st r h : Int) (ta : Option Addr) (tl tc : Nat) (w : World) (z0 : s0.size ≤ maxLen) (z1 : s1.size ≤ maxLen) (z2 : s2.size ≤ maxLen) (z4 : tl ≤ maxLen)
    (c0 : w.cell? ⟨b, o, none⟩ = some (.string s0)) (c1 : w.cell? ⟨b, o + 1, none⟩ = some (.string s1)) (c2 : w.cell? ⟨b, o + 2, none⟩ = some (.string s2)) (c3 : w.cell? ⟨b, o + 3, none⟩ = some (.int .i64 st))
    (c4 : w.cell? ⟨b, o + 4, none⟩ = some (.slice ta tl tc)) (c5 : w.cell? ⟨b, o + 5, none⟩ = some (.int .i64 r)) (c6 : w.cell? ⟨b, o + 6, none⟩ = some (.int .i64 h)) (hb : b < w.heap.size)
    (h1 : w.cell? ⟨0, 3, none⟩ = some (.int .u8 1)) (h5 : w.cell? ⟨0, 8, none⟩ = some (.int .u8 5)) (hpos : 0 < w.heap.size) (hst : 0 ≤ st) :
    Calls Tryd.prog 3 #[.int .i64 0, .pointer (some ⟨b, o, none⟩)] w fun e w' => e = .returned (.bool true) ∧ Below w.heap.size w w' := by
  go_enter Tryd.func3, Tryd.ntmps3
  go_wp2_with fail
  refine (bytes_any 0 b o s0 s1 s2 ta tl tc _ z0 z1 z2 z4 c0 c1 c2 c4).mono ?_
  rintro e w' ⟨rfl | ⟨rfl, hsum⟩, rfl⟩
  · go_wp2
    go_ret
    exact ⟨rfl, Below.refl _ _⟩
  go_wp2_with fail
  refine (over_any b o s0 s1 s2 ta tl tc _ hsum c0 c1 c2 c4).mono ?_
  rintro e w' ⟨rr, rfl, n, rfl⟩
  cases rr
  rotate_left
  · go_wp2
    go_ret
    exact ⟨rfl, below_draws (Below.refl _ _) _⟩
  go_wp2_with fail
  refine (desc_any b o s0 s1 s2 st r h ta tl tc _ (by exact c0) (by exact c1) (by exact c2) (by exact c3) (by exact c4) (by exact c5) (by exact c6) (by exact hb)).mono ?_
  rintro e w' ⟨rfl, rfl⟩
  have k1 := fun X Y => (old_two _ n X Y 0 3 hpos).trans h1
  have k5 := fun X Y => (old_two _ n X Y 0 8 hpos).trans h5
  have k3 := fun X Y => (old_two _ n X Y b (o + 3) hb).trans c3
  go_wp2_with fail
  refine (zz_write (w'.heap.size + 1) st hst _ ?_ ?_).mono ?_
  · exact k1 _ _
  · go_cell
  rintro e w2 ⟨rfl, n2, rfl⟩
  go_wp2_with fail
  refine (zz_read (w'.heap.size + 1) st hst _ ?_ ?_).mono ?_
  · exact k5 _ _
  · go_cell
  rintro e w3 ⟨rfl, n3, rfl⟩
  go_wp2
  all_goals go_ret
  all_goals exact ⟨rfl, below_draws (below_two _ n _ _) _⟩

set_option maxHeartbeats 1000000 in
theorem law_read (b o : Nat) (s0 s1 s2 : ByteArray) (st r h : Int) (ta : Option Addr) (tl tc : Nat) (w : World) (z0 : s0.size ≤ maxLen) (z1 : s1.size ≤ maxLen) (z2 : s2.size ≤ maxLen) (z4 : tl ≤ maxLen)
    (c0 : w.cell? ⟨b, o, none⟩ = some (.string s0)) (c1 : w.cell? ⟨b, o + 1, none⟩ = some (.string s1)) (c2 : w.cell? ⟨b, o + 2, none⟩ = some (.string s2)) (c3 : w.cell? ⟨b, o + 3, none⟩ = some (.int .i64 st))
    (c4 : w.cell? ⟨b, o + 4, none⟩ = some (.slice ta tl tc)) (c5 : w.cell? ⟨b, o + 5, none⟩ = some (.int .i64 r)) (c6 : w.cell? ⟨b, o + 6, none⟩ = some (.int .i64 h)) (hb : b < w.heap.size)
    (h1 : w.cell? ⟨0, 3, none⟩ = some (.int .u8 1)) (h5 : w.cell? ⟨0, 8, none⟩ = some (.int .u8 5)) (hpos : 0 < w.heap.size) (hst : 0 ≤ st) :
    Calls Tryd.prog 3 #[.int .i64 1, .pointer (some ⟨b, o, none⟩)] w fun e w' => e = .returned (.bool true) ∧ Below w.heap.size w w' := by
  go_enter Tryd.func3, Tryd.ntmps3
  go_wp2_with fail
  refine (bytes_any 1 b o s0 s1 s2 ta tl tc _ z0 z1 z2 z4 c0 c1 c2 c4).mono ?_
  rintro e w' ⟨rfl | ⟨rfl, hsum⟩, rfl⟩
  · go_wp2
    go_ret
    exact ⟨rfl, Below.refl _ _⟩
  go_wp2_with fail
  refine (over_any b o s0 s1 s2 ta tl tc _ hsum c0 c1 c2 c4).mono ?_
  rintro e w' ⟨rr, rfl, n, rfl⟩
  cases rr
  rotate_left
  · go_wp2
    go_ret
    exact ⟨rfl, below_draws (Below.refl _ _) _⟩
  go_wp2_with fail
  refine (desc_any b o s0 s1 s2 st r h ta tl tc _ (by exact c0) (by exact c1) (by exact c2) (by exact c3) (by exact c4) (by exact c5) (by exact c6) (by exact hb)).mono ?_
  rintro e w' ⟨rfl, rfl⟩
  have k1 := fun X Y => (old_two _ n X Y 0 3 hpos).trans h1
  have k5 := fun X Y => (old_two _ n X Y 0 8 hpos).trans h5
  have k3 := fun X Y => (old_two _ n X Y b (o + 3) hb).trans c3
  go_wp2_with fail
  refine (zz_read (w'.heap.size + 1) st hst _ ?_ ?_).mono ?_
  · exact k5 _ _
  · go_cell
  rintro e w2 ⟨rfl, n2, rfl⟩
  go_wp2_with fail
  refine (zz_write (w'.heap.size + 1) st hst _ ?_ ?_).mono ?_
  · exact k1 _ _
  · go_cell
  rintro e w3 ⟨rfl, n3, rfl⟩
  go_wp2
  all_goals go_ret
  all_goals exact ⟨rfl, below_draws (below_two _ n _ _) _⟩

set_option maxHeartbeats 1000000 in
/-- An undefined operation, or a negative state: the law returns ahead of the table. -/
theorem law_other (op : Int) (b o : Nat) (s0 s1 s2 : ByteArray) (st : Int) (ta : Option Addr) (tl tc : Nat) (w : World) (z0 : s0.size ≤ maxLen) (z1 : s1.size ≤ maxLen) (z2 : s2.size ≤ maxLen) (z4 : tl ≤ maxLen)
    (c0 : w.cell? ⟨b, o, none⟩ = some (.string s0)) (c1 : w.cell? ⟨b, o + 1, none⟩ = some (.string s1)) (c2 : w.cell? ⟨b, o + 2, none⟩ = some (.string s2)) (c3 : w.cell? ⟨b, o + 3, none⟩ = some (.int .i64 st))
    (c4 : w.cell? ⟨b, o + 4, none⟩ = some (.slice ta tl tc)) (hop : (op != 0) = true) (hop1 : (op != 1) = true) :
    Calls Tryd.prog 3 #[.int .i64 op, .pointer (some ⟨b, o, none⟩)] w fun e w' => e = .returned (.bool true) ∧ Below w.heap.size w w' := by
  go_enter Tryd.func3, Tryd.ntmps3
  go_wp2_with fail
  refine (bytes_any op b o s0 s1 s2 ta tl tc _ z0 z1 z2 z4 c0 c1 c2 c4).mono ?_
  rintro e w' ⟨rfl | ⟨rfl, hsum⟩, rfl⟩
  · go_wp2
    go_ret
    exact ⟨rfl, Below.refl _ _⟩
  go_wp2_with fail
  refine (over_any b o s0 s1 s2 ta tl tc _ hsum c0 c1 c2 c4).mono ?_
  rintro e w' ⟨rr, rfl, n, rfl⟩
  cases rr
  rotate_left
  · go_wp2
    go_ret
    exact ⟨rfl, below_draws (Below.refl _ _) _⟩
  go_wp2
  go_ret
  exact ⟨rfl, below_draws (Below.refl _ _) _⟩

set_option maxHeartbeats 1000000 in
theorem law_neg (op : Int) (b o : Nat) (s0 s1 s2 : ByteArray) (st : Int) (ta : Option Addr) (tl tc : Nat) (w : World) (z0 : s0.size ≤ maxLen) (z1 : s1.size ≤ maxLen) (z2 : s2.size ≤ maxLen) (z4 : tl ≤ maxLen)
    (c0 : w.cell? ⟨b, o, none⟩ = some (.string s0)) (c1 : w.cell? ⟨b, o + 1, none⟩ = some (.string s1)) (c2 : w.cell? ⟨b, o + 2, none⟩ = some (.string s2)) (c3 : w.cell? ⟨b, o + 3, none⟩ = some (.int .i64 st))
    (c4 : w.cell? ⟨b, o + 4, none⟩ = some (.slice ta tl tc)) (hop : op = 0 ∨ op = 1) (hst : st < 0) :
    Calls Tryd.prog 3 #[.int .i64 op, .pointer (some ⟨b, o, none⟩)] w fun e w' => e = .returned (.bool true) ∧ Below w.heap.size w w' := by
  rcases hop with rfl | rfl
  · go_enter Tryd.func3, Tryd.ntmps3
    go_wp2_with fail
    refine (bytes_any 0 b o s0 s1 s2 ta tl tc _ z0 z1 z2 z4 c0 c1 c2 c4).mono ?_
    rintro e w' ⟨rfl | ⟨rfl, hsum⟩, rfl⟩
    · go_wp2
      go_ret
      exact ⟨rfl, Below.refl _ _⟩
    go_wp2_with fail
    refine (over_any b o s0 s1 s2 ta tl tc _ hsum c0 c1 c2 c4).mono ?_
    rintro e w' ⟨rr, rfl, n, rfl⟩
    cases rr
    rotate_left
    · go_wp2
      go_ret
      exact ⟨rfl, below_draws (Below.refl _ _) _⟩
    go_wp2
    go_ret
    exact ⟨rfl, below_draws (Below.refl _ _) _⟩
  · go_enter Tryd.func3, Tryd.ntmps3
    go_wp2_with fail
    refine (bytes_any 1 b o s0 s1 s2 ta tl tc _ z0 z1 z2 z4 c0 c1 c2 c4).mono ?_
    rintro e w' ⟨rfl | ⟨rfl, hsum⟩, rfl⟩
    · go_wp2
      go_ret
      exact ⟨rfl, Below.refl _ _⟩
    go_wp2_with fail
    refine (over_any b o s0 s1 s2 ta tl tc _ hsum c0 c1 c2 c4).mono ?_
    rintro e w' ⟨rr, rfl, n, rfl⟩
    cases rr
    rotate_left
    · go_wp2
      go_ret
      exact ⟨rfl, below_draws (Below.refl _ _) _⟩
    go_wp2
    go_ret
    exact ⟨rfl, below_draws (Below.refl _ _) _⟩
end Go.Proofs.Qxb6614400aDoor
