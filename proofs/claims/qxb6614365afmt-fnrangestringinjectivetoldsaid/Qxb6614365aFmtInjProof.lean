/-
  SEAT b6614365aF: THE TOLD CARD of FnRangeStringInjective, proved.
-/
import Derived.Test.Qxb6614365aFmtInj
import Derived.Test.Qxb6614365aFmtCards
import Derived.ProofKit
import Derived.Stop.JoinedAt
import Derived.Stop.JoinedTold
import Derived.SevenToldRow
namespace Go.Proofs.Qxb6614365aFmt
namespace Inj
open Go.ChangeShapes Go.WideShapes Go.ChangeAt Go.RowKit Go.Kit
open Go.Extern.Stop Go.Stop Go.Extern

theorem i64_bounds {x : Int} (h : (Lit.int .i64 x).wf = true) : -9223372036854775808 ≤ x ∧ x ≤ 9223372036854775807 := by
  simp [Lit.wf, IntKind.min, IntKind.max, IntKind.signed, IntKind.bits] at h
  omega

theorem txt_list (a b : Int) : (txt a b).toList = txtL a b := by
  rw [ByteArray.toList_eq]; rfl
theorem txt_ne {a b c d : Int} (h : ¬ (a = c ∧ b = d)) : ((txt a b).toList == (txt c d).toList) = false := by
  rw [txt_list, txt_list, beq_eq_false_iff_ne]
  exact fun e => h (txtL_inj e)

theorem inj_any (F : Interp) (a b c d : Int) (wa : (Lit.int .i64 a).wf = true) (wb : (Lit.int .i64 b).wf = true) (wc : (Lit.int .i64 c).wf = true) (wd : (Lit.int .i64 d).wf = true) (w : World) (hF : F.told.answers w.tape) :
    Calls Tryf.prog 4 #[.int .i64 a, .int .i64 b, .int .i64 c, .int .i64 d] w fun e w' => e = .returned (.bool true) ∧ Grown w w' := by
  have h1 := i64_bounds wa
  have h2 := i64_bounds wb
  have l1 := Lib.itoa_length_le a h1.1 h1.2
  have l2 := Lib.itoa_length_le b h2.1 h2.2
  have hsz := txt_size a b
  by_cases hac : a = c
  · subst hac
    by_cases hbd : b = d
    · subst hbd
      exact inj_same F a b wa wb h1.1 h1.2 h2.1 h2.2 (txt a b) rfl _ _ rfl rfl (by omega) l1 l2 w hF
    · exact inj_last F a b d wa wb wd h1.1 h1.2 h2.1 h2.2 (txt a b) (txt a d) rfl rfl (by simpa using hbd) (txt_ne fun h => hbd h.2) _ _ rfl rfl (by omega) l1 l2 w hF
  · exact inj_first F a b c d wa wb wc wd h1.1 h1.2 h2.1 h2.2 (txt a b) (txt c d) rfl rfl (by simpa using hac) (txt_ne fun h => hac h.1) _ _ rfl rfl (by omega) l1 l2 w hF

theorem own : ownKnob Tryf.prog.godebug = none := by kernel_rfl

set_option maxRecDepth 100000 in
theorem inj_lifted (os : Os) (started : os.Started) (H : Type) (enc : TypeId × Value → H) :
    ReturnsInTold none {} Tryf.checked os 4 .any Input.okWide ((OpenSpec.ofChange Rows.fnRangeStringInjectiveSpec).preRow enc Tryf.prog Tryf.f4 [] false []) (fun F => ((OpenSpec.ofChange Rows.fnRangeStringInjectiveSpec).at F).post enc Tryf.prog Tryf.f4 false true false false) (aloneAtReturn Tryf.prog) nothingAlways := by
  refine returnsInTold_of_row (C := Tryf.checked) (s := OpenSpec.ofChange Rows.fnRangeStringInjectiveSpec) (by kernel_rfl) own started (by kernel_rfl) Tryf.func4
    (OpenSpec.witness_stopped (enc := enc) (C := Tryf.checked) false ⟨#[], #[.int .i64 1, .int .i64 1, .int .i64 1, .int .i64 1], []⟩ 8 (by kernel_rfl) (by kernel_rfl) (by kernel_rfl) (by kernel_rfl)) ?_
  intro F W base args ds gs before _ hF hval0 hW _ _ hsz _ _
  have hval : ∀ (j : Nat) t v, Tryf.f4.params[j]? = some t → args[j]? = some v → Value.okWide Tryf.prog W .any base t v := hval0
  have hW' := hW
  obtain ⟨p, q, hA0, hV, rfl, hfz, hnd⟩ := hW
  have hA : DataW.TrodAll enc Tryf.prog W 0 (fun _ => true) true Tryf.f4.params.toList args.toList ds p := hA0
  rw [Tryf.params4] at hA hval
  obtain ⟨v0, v1, v2, v3, d0, d1, d2, d3, p0, p1, p2, p3, rfl, rfl, rfl, h0, h1, h2, h3⟩ := trodAll_four hA
  obtain ⟨rfl, rfl⟩ := trodVars_none hV
  obtain ⟨a, rfl, rfl, rfl, wa⟩ := open_int Tryf.underlying3 (hval 0 3 v0 rfl rfl) h0
  obtain ⟨b, rfl, rfl, rfl, wb⟩ := open_int Tryf.underlying3 (hval 1 3 v1 rfl rfl) h1
  obtain ⟨c, rfl, rfl, rfl, wc⟩ := open_int Tryf.underlying3 (hval 2 3 v2 rfl rfl) h2
  obtain ⟨d, rfl, rfl, rfl, wd⟩ := open_int Tryf.underlying3 (hval 3 3 v3 rfl rfl) h3
  clear hA0 hval0
  refine (inj_any F a b c d wa wb wc wd W hF).mono fun e W' ⟨he, hg⟩ => ?_
  subst he
  refine ⟨_, rfl, _, _, _, [], [], [], hW', ?_, ?_, rfl, hg.frame _, fun h => by cases h⟩
  · exact trodAll_mk1 (shut_bool Tryf.underlying4 true)
  · exact trodAll_mk4 (shut_int Tryf.underlying3 wa) (shut_int Tryf.underlying3 wb) (shut_int Tryf.underlying3 wc) (shut_int Tryf.underlying3 wd)

theorem laidOutT : laidOutB Tryf.pinned.checked.prog = true := by kernel_rfl
theorem stopsT : Tryf.pinned.checked.prog.stops = ["fmt.Sprintf"] := by kernel_rfl
theorem stopKnobsT : Tryf.pinned.checked.prog.stopKnobs = [] := by kernel_rfl
theorem quietT (os : Os) : Stop.quiet Tryf.pinned.checked.prog os := by
  intro k hk
  rw [stopKnobsT] at hk
  cases hk

end Inj
open Inj in
/-- THE STATEMENT. -/
theorem fnRangeStringInjective_told : Rows.FnRangeStringInjectiveToldSaid :=
  Claim7.holds_of_told_any 4 Tryf.f4 "fmt.Sprintf" [] [] _ _ _ (by kernel_rfl) rfl rfl rfl laidOutT (by kernel_rfl) rfl ⟨rfl, rfl, rfl, rfl, rfl, rfl, rfl⟩ rfl rfl (by kernel_rfl) (by kernel_rfl) Tryf.func4 (by kernel_rfl)
    (of_decide_eq_true (by kernel_rfl)) (of_decide_eq_true (by kernel_rfl)) stopsT.symm rfl stopKnobsT.symm (by kernel_rfl)
    (by kernel_rfl) (by kernel_rfl) (by kernel_rfl) (by kernel_rfl) (by kernel_rfl) (by kernel_rfl) (by kernel_rfl) (by kernel_rfl) (by kernel_rfl) rfl (by kernel_rfl) rfl rfl
    rfl rfl
    rfl (by kernel_rfl) (by kernel_rfl) (by kernel_rfl) (by decide) (by kernel_rfl)
    (OpenClaim.moreEntering_of (by kernel_rfl) (by kernel_rfl) (by kernel_rfl) (by kernel_rfl) (by kernel_rfl) (by kernel_rfl) (by kernel_rfl) (by kernel_rfl) (by kernel_rfl) (by kernel_rfl))
    ⟨_, WideRow.started_initial, quietT _⟩
    (fun os started _ H enc _ => inj_lifted os started H enc)
end Go.Proofs.Qxb6614365aFmt
