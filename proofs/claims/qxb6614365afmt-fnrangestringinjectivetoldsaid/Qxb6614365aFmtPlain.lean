/-
  THE PLAIN MATHEMATICS for seat b6614365aF: decimal numerals, read back digit by digit. No program in this text.
-/
import Derived.PlainAid
import Derived.Lib.ItoaLen
namespace Go.Proofs.Qxb6614365aFmt
open Go.Lib Go.PlainAid

/-- The number that the first m digits of u spell. -/
def pv (u m : Nat) : Nat := u / 10 ^ (nDigits u - m)

theorem pv_zero (u : Nat) : pv u 0 = 0 := by
  unfold pv; exact Nat.div_eq_of_lt (lt_pow_nDigits u)
theorem pv_full (u : Nat) : pv u (nDigits u) = u := by
  unfold pv; rw [Nat.sub_self]; simp
theorem pv_le (u m : Nat) : pv u m ≤ u := Nat.div_le_self _ _
theorem pv_succ (u m : Nat) (h : m < nDigits u) : pv u m = pv u (m + 1) / 10 := by
  unfold pv
  have e : nDigits u - m = (nDigits u - (m + 1)) + 1 := by omega
  rw [e, Nat.pow_succ, Nat.div_div_eq_div_mul]
theorem pow_le_of (u : Nat) (h : 1 ≤ u) : 10 ^ (nDigits u - 1) ≤ u := by
  induction u using Nat.strongRecOn with
  | _ u ih =>
    by_cases h10 : u < 10
    · rw [nDigits_small h10]; simpa using h
    · have := ih (u / 10) (by omega) (by omega)
      rw [nDigits_big h10]
      have hp := nDigits_pos (u / 10)
      have e : nDigits (u / 10) + 1 - 1 = (nDigits (u / 10) - 1) + 1 := by omega
      rw [e, Nat.pow_succ]
      omega
theorem pv_one_pos (u : Nat) (h : 1 ≤ u) : 1 ≤ pv u 1 := by
  unfold pv
  exact (Nat.le_div_iff_mul_le (Nat.pow_pos (by decide))).2 (by simpa using pow_le_of u h)
theorem pv_one_lt (u : Nat) : pv u 1 < 10 := by
  have h := pv_succ u 0 (by have := nDigits_pos u; omega)
  rw [pv_zero] at h
  simp at h
  omega

/-- From place st on, s bears the decimal digits of u, and what stands behind them is a dash or nothing. -/
structure Numeral (s : ByteArray) (st u : Nat) : Prop where
  fits : st + nDigits u ≤ s.size
  dig : ∀ m, m < nDigits u → bt s (st + m) = 48 + ((pv u (m + 1) % 10 : Nat) : Int)
  stop : st + nDigits u < s.size → bt s (st + nDigits u) = 45

theorem bt_list (l : List UInt8) (k : Nat) : bt ⟨l.toArray⟩ k = ((l[k]?.getD 0).toNat : Int) := by
  unfold bt
  by_cases h : k < l.length
  · have h' : k < (⟨l.toArray⟩ : ByteArray).size := h
    rw [dif_pos h', List.getElem?_eq_getElem h]
    rfl
  · have h' : ¬ k < (⟨l.toArray⟩ : ByteArray).size := h
    rw [dif_neg h', List.getElem?_eq_none (by omega)]
    rfl

theorem dg_toNat (u j : Nat) : (dg u j).toNat = 48 + u / 10 ^ j % 10 := by
  unfold dg
  have : u / 10 ^ j % 10 < 10 := Nat.mod_lt _ (by decide)
  rw [UInt8.toNat_ofNat']
  exact Nat.mod_eq_of_lt (by omega)

theorem decDigits_at (u m : Nat) (h : m < nDigits u) : (decDigits u)[m]? = some (dg u (nDigits u - 1 - m)) := by
  rw [decDigits_eq, List.getElem?_map, List.getElem?_range h]
  rfl

theorem numeral_of (pre post : List UInt8) (u : Nat) (hp : post = [] ∨ ∃ r, post = 45 :: r) : Numeral ⟨(pre ++ (decDigits u ++ post)).toArray⟩ pre.length u := by
  have hl := decDigits_length u
  have hsz : (⟨(pre ++ (decDigits u ++ post)).toArray⟩ : ByteArray).size = pre.length + (nDigits u + post.length) := by
    show (pre ++ (decDigits u ++ post)).toArray.size = _
    simp [hl]
  refine ⟨by rw [hsz]; omega, fun m hm => ?_, fun hlt => ?_⟩
  · rw [bt_list, List.getElem?_append_right (by omega), Nat.add_sub_cancel_left, List.getElem?_append_left (by omega), decDigits_at u m hm]
    simp only [Option.getD_some, dg_toNat]
    unfold pv
    have e : nDigits u - 1 - m = nDigits u - (m + 1) := by omega
    rw [e]; omega
  · rw [hsz] at hlt
    rw [bt_list, List.getElem?_append_right (by omega), Nat.add_sub_cancel_left, List.getElem?_append_right (by omega), hl, Nat.sub_self]
    rcases hp with rfl | ⟨r, rfl⟩
    · simp at hlt
    · rfl

/-- What fmt writes for "%d-%d". -/
def txtL (a b : Int) : List UInt8 := itoa a ++ 45 :: itoa b
def txt (a b : Int) : ByteArray := ⟨(txtL a b).toArray⟩
theorem txt_size (a b : Int) : (txt a b).size = (itoa a).length + 1 + (itoa b).length := by
  show (txtL a b).toArray.size = _
  simp [txtL]; omega

theorem itoa_len_neg (u : Nat) (h : 1 ≤ u) : (itoa (-(u : Int))).length = 1 + nDigits u := by
  rw [itoa_neg u h, List.length_cons, decDigits_length]; omega
theorem itoa_len_nonneg (u : Nat) : (itoa (u : Int)).length = nDigits u := by rw [itoa_nonneg, decDigits_length]

/-- Place i of s opens the numeral of x: its sign, then its digits. -/
structure Spells (s : ByteArray) (i : Nat) (x : Int) : Prop where
  neg : x < 0 → i < s.size ∧ bt s i = 45 ∧ Numeral s (i + 1) x.natAbs
  pos : 0 ≤ x → Numeral s i x.natAbs

theorem spells_of (pre post : List UInt8) (x : Int) (hp : post = [] ∨ ∃ r, post = 45 :: r) : Spells ⟨(pre ++ (itoa x ++ post)).toArray⟩ pre.length x := by
  refine ⟨fun hx => ?_, fun hx => ?_⟩
  · have e : itoa x = 45 :: decDigits x.natAbs := by unfold itoa; rw [if_pos hx]
    rw [e]
    refine ⟨?_, ?_, ?_⟩
    · show pre.length < (pre ++ (45 :: decDigits x.natAbs ++ post)).toArray.size
      simp
    · rw [bt_list, List.getElem?_append_right (Nat.le_refl _), Nat.sub_self]; rfl
    · have h := numeral_of (pre ++ [45]) post x.natAbs hp
      have e2 : pre ++ [45] ++ (decDigits x.natAbs ++ post) = pre ++ (45 :: decDigits x.natAbs ++ post) := by simp
      rw [e2] at h
      simpa using h
  · have e : itoa x = decDigits x.natAbs := by unfold itoa; rw [if_neg (by omega)]; congr 1; omega
    rw [e]
    exact numeral_of pre post x.natAbs hp

theorem spells_first (a b : Int) : Spells (txt a b) 0 a := spells_of [] (45 :: itoa b) a (Or.inr ⟨_, rfl⟩)
theorem spells_last (a b : Int) : Spells (txt a b) ((itoa a).length + 1) b := by
  have h := spells_of (itoa a ++ [45]) [] b (Or.inl rfl)
  have e : itoa a ++ [45] ++ (itoa b ++ []) = txtL a b := by simp [txtL]
  rw [e] at h
  have e2 : (itoa a ++ [45]).length = (itoa a).length + 1 := by simp
  rw [e2] at h
  exact h
theorem txt_dash (a b : Int) : bt (txt a b) (itoa a).length = 45 := by
  unfold txt txtL
  rw [bt_list, List.getElem?_append_right (Nat.le_refl _), Nat.sub_self]; rfl

theorem itoa_length (x : Int) : (itoa x).length = (if x < 0 then 1 else 0) + nDigits x.natAbs := by
  unfold itoa
  by_cases h : x < 0
  · rw [if_pos h, if_pos h, List.length_cons, decDigits_length]; omega
  · rw [if_neg h, if_neg h, decDigits_length]
    have e : x.toNat = x.natAbs := by omega
    rw [e]; omega

/-! ### Two ranges of one text are one range -/
def val (l : List UInt8) : Nat := l.foldl (fun acc c => acc * 10 + (c.toNat - 48)) 0
theorem val_snoc (l : List UInt8) (c : UInt8) : val (l ++ [c]) = val l * 10 + (c.toNat - 48) := by unfold val; rw [List.foldl_append]; rfl
theorem val_decDigits (u : Nat) : val (decDigits u) = u := by
  induction u using Nat.strongRecOn with
  | _ u ih =>
    by_cases h : u < 10
    · rw [decDigits, dif_pos h]
      have e : (UInt8.ofNat (48 + u)).toNat = 48 + u := by rw [UInt8.toNat_ofNat']; exact Nat.mod_eq_of_lt (by omega)
      show 0 * 10 + ((UInt8.ofNat (48 + u)).toNat - 48) = u
      rw [e]; omega
    · rw [decDigits, dif_neg h, val_snoc, ih (u / 10) (by omega)]
      have hm : u % 10 < 10 := Nat.mod_lt _ (by decide)
      have e : (UInt8.ofNat (48 + u % 10)).toNat = 48 + u % 10 := by rw [UInt8.toNat_ofNat']; exact Nat.mod_eq_of_lt (by omega)
      rw [e]; omega
theorem decDigits_inj {u v : Nat} (h : decDigits u = decDigits v) : u = v := by rw [← val_decDigits u, h, val_decDigits]
theorem decDigits_noDash (u : Nat) : ∀ c ∈ decDigits u, c ≠ 45 := by
  intro c hc
  rw [decDigits_eq] at hc
  obtain ⟨t, _, rfl⟩ := List.mem_map.1 hc
  intro h
  have := dg_toNat u (nDigits u - 1 - t)
  rw [h] at this
  have e : (45 : UInt8).toNat = 45 := rfl
  omega
theorem decDigits_ne_nil (u : Nat) : decDigits u ≠ [] := by
  intro h
  have := decDigits_length u
  rw [h] at this
  have := nDigits_pos u
  simp at *
  omega
theorem split_dash : ∀ (l1 l2 r1 r2 : List UInt8), (∀ c ∈ l1, c ≠ 45) → (∀ c ∈ l2, c ≠ 45) → l1 ++ 45 :: r1 = l2 ++ 45 :: r2 → l1 = l2 ∧ r1 = r2
  | [], [], _, _, _, _, h => ⟨rfl, by simpa using h⟩
  | [], c :: _, _, _, _, h2, h => by simp at h; exact absurd h.1.symm (h2 c (by simp))
  | c :: _, [], _, _, h1, _, h => by simp at h; exact absurd h.1 (h1 c (by simp))
  | c :: l1, d :: l2, r1, r2, h1, h2, h => by
    simp only [List.cons_append, List.cons.injEq] at h
    obtain ⟨rfl, h⟩ := h
    have := split_dash l1 l2 r1 r2 (fun c hc => h1 c (by simp [hc])) (fun c hc => h2 c (by simp [hc])) h
    exact ⟨by rw [this.1], this.2⟩
theorem itoa_of_neg {x : Int} (h : x < 0) : itoa x = 45 :: decDigits x.natAbs := by unfold itoa; rw [if_pos h]
theorem itoa_of_pos {x : Int} (h : ¬ x < 0) : itoa x = decDigits x.natAbs := by
  unfold itoa; rw [if_neg h]
  have e : x.toNat = x.natAbs := by omega
  rw [e]
theorem head_ne (u : Nat) (r r2 : List UInt8) : decDigits u ++ r ≠ 45 :: r2 := by
  intro h
  cases hd : decDigits u with
  | nil => exact decDigits_ne_nil u hd
  | cons c l =>
    rw [hd] at h
    simp at h
    exact decDigits_noDash u c (by rw [hd]; simp) h.1
theorem itoa_split (a c : Int) (r1 r2 : List UInt8) (h : itoa a ++ 45 :: r1 = itoa c ++ 45 :: r2) : a = c ∧ r1 = r2 := by
  by_cases ha : a < 0 <;> by_cases hc : c < 0
  · rw [itoa_of_neg ha, itoa_of_neg hc] at h
    simp only [List.cons_append, List.cons.injEq, true_and] at h
    have hs := split_dash _ _ _ _ (decDigits_noDash _) (decDigits_noDash _) h
    have := decDigits_inj hs.1
    exact ⟨by omega, hs.2⟩
  · rw [itoa_of_neg ha, itoa_of_pos hc] at h
    exact absurd h.symm (head_ne _ _ _)
  · rw [itoa_of_pos ha, itoa_of_neg hc] at h
    exact absurd h (head_ne _ _ _)
  · rw [itoa_of_pos ha, itoa_of_pos hc] at h
    have hs := split_dash _ _ _ _ (decDigits_noDash _) (decDigits_noDash _) h
    have := decDigits_inj hs.1
    exact ⟨by omega, hs.2⟩
theorem itoa_inj {a c : Int} (h : itoa a = itoa c) : a = c := (itoa_split a c [] [] (by rw [h])).1
theorem txtL_inj {a b c d : Int} (h : txtL a b = txtL c d) : a = c ∧ b = d := by
  have := itoa_split a c _ _ h
  exact ⟨this.1, itoa_inj this.2⟩
end Go.Proofs.Qxb6614365aFmt
