/-
  SEAT b6614400aD: THE ROW AND THE TIED CARD of FnSettlesAgreesAcrossOperations, proved.
-/
import Derived.Test.Qxb6614400aDoorLaw
import Derived.Test.Qxb6614400aDoorOpen
import Derived.Test.Qxb6614400aDoorTie
import Derived.Test.Qxb6614400aDoorCards
import Derived.ProofKit
import Derived.LaidMore
import Derived.OpenVars
import Derived.Stop.Joined
import Derived.SevenTiedAt
namespace Go.Proofs.Qxb6614400aDoor
open Go.ChangeShapes Go.WideShapes Go.ChangeAt Go.RowKit

theorem own : ownKnob Tryd.prog.godebug = none := by kernel_rfl
theorem laidOutT : laidOutB Tryd.prog = true := by kernel_rfl

/-- The heap that the door's own run leaves meets the condition. -/
theorem door_met (os : Os) (args : Array Value) : laidMetH Tryd.prog Rows.fnSettlesAgreesAcrossOperationsRow.laid ((World.doorLaid Tryd.prog 16 os).forCall (fun _ _ => 0) ⟨#[], args, []⟩).memory :=
  laidMetH_of_parts3 (fuel := 8) (laidMet_of_run' 8 (by kernel_rfl) (by kernel_rfl)) (by kernel_rfl) (by kernel_rfl)

theorem one_var {H : Type} {enc : TypeId × Value → H} {W : World} {sp : Nat → Bool} {n : String} {gs : List (DataW H)} {q : List MemPlace} (h : DataW.TrodVars enc Tryd.prog W sp [n] gs q) : ∃ g, gs = [g] := by
  cases gs with
  | nil => exact h.elim
  | cons g r =>
    cases r with
    | nil => exact ⟨g, rfl⟩
    | cons g2 r2 =>
      obtain ⟨_, _, _, _, _, _, _, _, _, _, hs, _⟩ := h
      exact hs.elim

theorem lt_of_cell {W : World} {b o : Nat} {v : Value} (h : W.cell? ⟨b, o, none⟩ = some v) : b < W.heap.size := by
  rcases Nat.lt_or_ge b W.heap.size with h' | h'
  · exact h'
  · simp [World.cell?, Array.getElem?_eq_none h'] at h

set_option maxRecDepth 100000 in
theorem lifted (os : Os) (started : os.Started) (H : Type) (enc : TypeId × Value → H) :
    ReturnsInHanded {} Tryd.checked os 3 .any (fun w args => (Rows.fnSettlesAgreesAcrossOperationsSpec.pre enc Tryd.prog Tryd.f3 [] false w args ∧ laidMetH Tryd.prog Rows.fnSettlesAgreesAcrossOperationsRow.laid w) ∧ sizedMet enc Tryd.prog Tryd.f3 (OpenSpec.ofChange Rows.fnSettlesAgreesAcrossOperationsSpec) false w args)
      (Rows.fnSettlesAgreesAcrossOperationsSpec.post enc Tryd.prog Tryd.f3 false true false false) := by
  refine returnsInHanded_of_change_and (C := Tryd.checked) (X := fun w _ => laidMetH Tryd.prog Rows.fnSettlesAgreesAcrossOperationsRow.laid w) (fun _ _ _ hh h => h.of_heap hh) own started (by kernel_rfl) Tryd.func3
    (ChangeSpec.witness_shaped (enc := enc) (C := Tryd.checked) (os := os) (X := fun w _ => laidMetH Tryd.prog Rows.fnSettlesAgreesAcrossOperationsRow.laid w) false (World.doorLaid Tryd.prog 16 os) #[.int .i64 0, .pointer none] 8 rfl (World.shaped_of_RefB (by kernel_rfl) (by kernel_rfl)) (by kernel_rfl) (by kernel_rfl) (by kernel_rfl) (door_met os _)) ?_
  intro W base args ds gs before hval0 hW _ _ hL _
  have hval : ∀ (j : Nat) t v, Tryd.f3.params[j]? = some t → args[j]? = some v → Value.okWide Tryd.prog W .any base t v := hval0
  have hW' := hW
  obtain ⟨p, q, hA0, hV, rfl, hfz, hnd⟩ := hW
  have hA : DataW.TrodAll enc Tryd.prog W 0 (fun _ => true) true Tryd.f3.params.toList args.toList ds p := hA0
  rw [Tryd.params3] at hA hval
  obtain ⟨v0, v1, d0, d1, p0, p1, rfl, rfl, rfl, h0, h1⟩ := trodAll_two hA
  obtain ⟨g, rfl⟩ := one_var hV
  obtain ⟨op, rfl, rfl, rfl, wop⟩ := open_int Tryd.underlying3 (hval 0 3 v0 rfl rfl) h0
  obtain ⟨a, rfl⟩ := okWide_pointer Tryd.underlying22 (hval 1 22 v1 rfl rfl)
  have hlt : ∀ x ∈ p1, x.block < W.heap.size := fun x hx => hA.lt x (by simpa using hx)
  obtain ⟨t3, t8⟩ := of_laid hL
  clear hA0 hval0
  have fin : ∀ (e : Ending) (W' : World), (e = .returned (.bool true) ∧ Below W.heap.size W W') → ∃ v, e = .returned v ∧ Rows.fnSettlesAgreesAcrossOperationsSpec.post enc Tryd.prog Tryd.f3 false true false false W #[.int .i64 op, .pointer a] v W' := by
    rintro e W' ⟨he, hB⟩
    refine ⟨_, he, _, _, _, [], [] ++ p1, q, hW', ?_, ?_, hB.trodVars laidOutT (by kernel_rfl) hV, hB.frame _, fun h => by cases h⟩
    · exact trodAll_mk1 (shut_bool Tryd.underlying4 true)
    · exact trodAll_mk2 (shut_int Tryd.underlying3 wop) (Below.trod laidOutT (by kernel_rfl) (of_decide_eq_true (by kernel_rfl)) h1 hB hlt)
  refine Calls.mono ?_ fin
  have h1' := h1
  obtain ⟨fuel, hf⟩ := h1'
  rcases open_inst (show DataW.trod enc Tryd.prog W 0 (fun _ => true) true fuel 22 [.pointer a] = some (d1, p1) by simpa [Value.cells] using hf) with hn | ⟨b, o, s0, s1, s2, st, ta, tl, tc, r, k, hcs, z0, z1, z2, z4, c0, c1, c2, c3, c4, c5, c6⟩
  · obtain rfl : a = none := by simpa using hn
    exact law_nil op W
  · obtain rfl : a = some ⟨b, o, none⟩ := by simpa using hcs
    by_cases hop : op = 0 ∨ op = 1
    · by_cases hst : st < 0
      · exact law_neg op b o s0 s1 s2 st ta tl tc W z0 z1 z2 z4 c0 c1 c2 c3 c4 hop hst
      · rcases hop with rfl | rfl
        · exact law_write b o s0 s1 s2 st r k ta tl tc W z0 z1 z2 z4 c0 c1 c2 c3 c4 c5 c6 (lt_of_cell c0) t3 t8 (lt_of_cell t3) (by omega)
        · exact law_read b o s0 s1 s2 st r k ta tl tc W z0 z1 z2 z4 c0 c1 c2 c3 c4 c5 c6 (lt_of_cell c0) t3 t8 (lt_of_cell t3) (by omega)
    · exact law_other op b o s0 s1 s2 st ta tl tc W z0 z1 z2 z4 c0 c1 c2 c3 c4 (by simp; omega) (by simp; omega)

theorem row_holds : Rows.FnSettlesAgreesAcrossOperationsSaid :=
  OpenClaim.holds_of_wide 3 Tryd.f3 rfl rfl rfl rfl rfl rfl rfl ⟨rfl, rfl, rfl, rfl, rfl⟩ rfl rfl rfl rfl rfl (by kernel_rfl) Tryd.func3 (by kernel_rfl)
    (of_decide_eq_true (by kernel_rfl)) (by unfold Func.isWrapper; first | (rw [if_pos (by decide +kernel)]; kernel_rfl) | (rw [if_neg (by decide +kernel)]; exact ⟨rfl, rfl⟩))
    (fun os started H enc _ => lifted os started H enc)

/-- THE STATEMENT: the tied card. -/
theorem fnSettlesAgreesAcrossOperations_card : Rows.FnSettlesAgreesAcrossOperationsCardSaid :=
  Claim7.holds_tied_plain_at .later [] [.wider] true (true, "f987df96f82535ed21ab3898ba7201f4b223b6033b89086a92093184ffda5a83") false
    row_holds (fun _ h => by cases h) (by kernel_rfl) (fun _ h => by cases h) fnSettlesAgreesAcrossOperations_row_tie rfl ⟨rfl, rfl⟩ (by kernel_rfl) rfl
    (fun f fn hf hfn => by
      obtain rfl : f = 3 := Option.some.inj ((show Tryd.prog.funcNamed Rows.fnSettlesAgreesAcrossOperationsRow.func = some 3 by kernel_rfl).symm.trans hf) |>.symm
      obtain rfl : fn = Tryd.f3 := (Option.some.inj (Tryd.func3.symm.trans hfn)).symm
      exact ⟨by kernel_rfl, fun j t ht => by
        rw [Tryd.params3] at ht
        have hm : t ∈ [3, 22] := by simpa using Array.mem_of_getElem? ht
        have hall : ([3, 22].all fun u => !Tryd.prog.wantsStandIn u) = true := by kernel_rfl
        exact (show Tryd.prog.wantsStandIn t = false by simpa using List.all_eq_true.1 hall t hm)⟩)
    (by kernel_rfl)
end Go.Proofs.Qxb6614400aDoor
