/-
  SEAT b6614400aD: what the row's hypotheses give the walks: the table's two sets; the instance's seven cells.
-/
import Derived.Test.Qxb6614400aDoorRows
import Derived.ProofKit
import Derived.OpenShut
import Derived.LaidMore
import Derived.MakeChecks
import Derived.Deep.Fields
namespace Go.Proofs.Qxb6614400aDoor
open Go.ChangeShapes Go.WideShapes Go.ChangeAt Go.RowKit Go.Deep

theorem gOps : Tryd.prog.globalNamed (Rows.fnSettlesAgreesAcrossOperationsRow.named.headD "") = some 0 := by kernel_rfl
theorem tOps : (Tryd.prog.globals[0]?).map (·.type) = some 39 := by kernel_rfl
theorem c39 : Tryd.prog.cellsOf 39 = 10 := by kernel_rfl
theorem c38 : Tryd.prog.cellsOf 38 = 5 := by kernel_rfl
theorem c36 : Tryd.prog.cellsOf 36 = 1 := by kernel_rfl

theorem third {H : Type} {ys : List (DataW H × List MemPlace)} {l : List (DataW H)} {d : DataW H} (e : l = ys.map (·.1)) (h3 : l[3]? = some d) : ∃ y, ys[3]? = some y ∧ y.1 = d := by
  rw [e, List.getElem?_map] at h3
  cases hy : ys[3]? with
  | none => rw [hy] at h3; cases h3
  | some y => rw [hy] at h3; exact ⟨y, rfl, Option.some.inj h3⟩
theorem lit_int {H : Type} {y : DataW H × List MemPlace} {k : IntKind} {n m : Int} (e : y = (.lit (.int k n), [])) (h : y.1 = .lit (.int k m)) : n = m := by
  rw [e] at h
  simpa using h

/-- WHAT THE CONDITION GIVES THE WALKS: Write's set and Read's set. -/
theorem of_laid {W : World} (h : laidMetH Tryd.prog Rows.fnSettlesAgreesAcrossOperationsRow.laid W) : W.cell? ⟨0, 3, none⟩ = some (.int .u8 1) ∧ W.cell? ⟨0, 8, none⟩ = some (.int .u8 5) := by
  rw [MakeChecks.laidMetH_plain _ _ _ (by kernel_rfl)] at h
  obtain ⟨ps, ⟨g0, t0, cs0, f0, p0, q0, hg0, ht0, hv0, hd0, _⟩, _, _⟩ := h
  obtain rfl := Option.some.inj (gOps.symm.trans hg0)
  obtain rfl := Option.some.inj (tOps.symm.trans ht0)
  have hc3 := World.var?_cell hg0 hv0 3
  have hc8 := World.var?_cell hg0 hv0 8
  obtain ⟨xs, m, rfl, hx, hlen, hn, hel⟩ := DataW.trod_array Tryd.underlying39 hd0
  rw [c39] at hlen
  rw [c38] at hel
  have h0 := hel 0 (by decide)
  have h1 := hel 1 (by decide)
  simp only [Prod.mk.injEq, Rows.laid_example_com_annulus_annulus_operations, DataW.agg.injEq] at hx
  match xs, hn, hx, h0, h1 with
  | [x0, x1], _, hx, h0, h1 =>
    simp only [List.map_cons, List.map_nil, List.cons.injEq] at hx
    obtain ⟨⟨e0, e1, _⟩, _⟩ := hx
    obtain ⟨ys, k, _, hy, _, hyl, hyf⟩ := DataW.trod_struct Tryd.underlying38 (show DataW.trod _ Tryd.prog W 0 _ false m 38 _ = some x0 from h0)
    obtain ⟨zs, k', _, hz, _, hzl, hzf⟩ := DataW.trod_struct Tryd.underlying38 (show DataW.trod _ Tryd.prog W 0 _ false m 38 _ = some x1 from h1)
    have hy3 := hyf 3 _ rfl
    have hz3 := hzf 3 _ rfl
    rw [hy] at e0
    rw [hz] at e1
    obtain ⟨y, hy4, hyd⟩ := third (DataW.agg.inj e0) rfl
    obtain ⟨z, hz4, hzd⟩ := third (DataW.agg.inj e1) rfl
    rw [hy4] at hy3
    rw [hz4] at hz3
    obtain ⟨a, ha, hya, _⟩ := DataW.trod_int (k := .u8) Tryd.underlying36 hy3
    obtain ⟨b, hb, hzb, _⟩ := DataW.trod_int (k := .u8) Tryd.underlying36 hz3
    obtain rfl := lit_int hya hyd
    obtain rfl := lit_int hzb hzd
    obtain ⟨l⟩ := cs0
    match l, hlen, ha, hb with
    | [v0, v1, v2, v3, v4, v5, v6, v7, v8, v9], _, ha, hb =>
      simp [c36] at ha hb
      subst ha hb
      exact ⟨by simpa using hc3, by simpa using hc8⟩

/-- WHAT THE INSTANCE's READING GIVES THE WALKS: nil, or seven cells of their kinds. -/
theorem open_inst {H : Type} {enc : TypeId × Value → H} {W : World} {sp : Nat → Bool} {fuel : Nat} {cs : List Value} {x : DataW H × List MemPlace} (h : DataW.trod enc Tryd.prog W 0 sp true fuel 22 cs = some x) :
    cs = [.pointer none] ∨
    ∃ (b o : Nat) (s0 s1 s2 : ByteArray) (st : Int) (ta : Option Addr) (tl tc : Nat) (r k : Int), cs = [.pointer (some ⟨b, o, none⟩)] ∧ s0.size ≤ maxLen ∧ s1.size ≤ maxLen ∧ s2.size ≤ maxLen ∧ tl ≤ maxLen ∧
      W.cell? ⟨b, o, none⟩ = some (.string s0) ∧ W.cell? ⟨b, o + 1, none⟩ = some (.string s1) ∧ W.cell? ⟨b, o + 2, none⟩ = some (.string s2) ∧ W.cell? ⟨b, o + 3, none⟩ = some (.int .i64 st) ∧
      W.cell? ⟨b, o + 4, none⟩ = some (.slice ta tl tc) ∧ W.cell? ⟨b, o + 5, none⟩ = some (.int .i64 r) ∧ W.cell? ⟨b, o + 6, none⟩ = some (.int .i64 k) := by
  rcases open_ptr_fields Tryd.underlying22 Tryd.underlying27 (hone_of (by kernel_rfl)) (by kernel_rfl) (by decide) h with h0 | ⟨b, o, n, V, Y, hcs, _, hx, hF⟩
  · exact Or.inl h0.1
  right
  obtain ⟨c0, t0⟩ := hF 0 _ rfl
  obtain ⟨c1, t1⟩ := hF 1 _ rfl
  obtain ⟨c2, t2⟩ := hF 2 _ rfl
  obtain ⟨c3, t3⟩ := hF 3 _ rfl
  obtain ⟨c4, t4⟩ := hF 4 _ rfl
  obtain ⟨c5, t5⟩ := hF 5 _ rfl
  obtain ⟨c6, t6⟩ := hF 6 _ rfl
  obtain ⟨s0, e0, _, z0⟩ := DataW.trod_string Tryd.underlying9 t0
  obtain ⟨s1, e1, _, z1⟩ := DataW.trod_string Tryd.underlying9 t1
  obtain ⟨s2, e2, _, z2⟩ := DataW.trod_string Tryd.underlying9 t2
  obtain ⟨st, e3, _, _⟩ := DataW.trod_int (k := .i64) Tryd.underlying3 t3
  obtain ⟨r, e5, _, _⟩ := DataW.trod_int (k := .i64) Tryd.underlying2 t5
  obtain ⟨k, e6, _, _⟩ := DataW.trod_int (k := .i64) Tryd.underlying2 t6
  have e4 : ∃ (ta : Option Addr) (tl tc : Nat), V 4 = .slice ta tl tc ∧ tl ≤ maxLen := by
    rcases open_slice Tryd.underlying25 t4 with ⟨e, _⟩ | ⟨a, len, cap, _, _, _, _, e, _, hl, hm, _⟩
    · exact ⟨none, 0, 0, by simpa using e, Nat.zero_le _⟩
    · exact ⟨some a, len, cap, by simpa using e, Nat.le_trans hl hm⟩
  obtain ⟨ta, tl, tc, e4, z4⟩ := e4
  simp only [List.cons.injEq, and_true] at e0 e1 e2 e3 e5 e6
  exact ⟨b, o, s0, s1, s2, st, ta, tl, tc, r, k, hcs, z0, z1, z2, z4, by simpa [e0] using c0, by rw [← e1]; exact c1, by rw [← e2]; exact c2, by rw [← e3]; exact c3, by rw [← e4]; exact c4, by rw [← e5]; exact c5, by rw [← e6]; exact c6⟩
end Go.Proofs.Qxb6614400aDoor
