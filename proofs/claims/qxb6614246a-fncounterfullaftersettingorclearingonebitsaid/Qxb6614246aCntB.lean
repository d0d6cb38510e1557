import Derived.Test.Qxb6614246aCntA
namespace Go.Proofs.Qxb6614246a.cnt
open Go.RowKit
set_option linter.unusedVariables false

/-- Each is a byte. -/
def Okay (os : List Int) : Prop := ∀ o ∈ os, 0 ≤ o ∧ o ≤ 255

theorem Okay.at {os : List Int} (h : Okay os) (k : Nat) : 0 ≤ os.getD k 0 ∧ os.getD k 0 ≤ 255 := by
  by_cases hk : k < os.length
  · exact h _ (by simp [List.getD, hk])
  · simp [List.getD, hk]
theorem Okay.set {os : List Int} (h : Okay os) (k : Nat) (x : Int) (hx : 0 ≤ x ∧ x ≤ 255) : Okay (os.set k x) := by
  intro o ho
  rcases List.mem_or_eq_of_mem_set ho with h' | h'
  · exact h o h'
  · rw [h']; exact hx

theorem mk_mod (j : Nat) : mk j = mk (j % 8) := by unfold mk; rw [Nat.mod_mod]
theorem bitv_mod (o : Int) (j : Nat) : bitv o j = bitv o (j % 8) := by unfold bitv; rw [mk_mod]

theorem or_law (o : Int) (h : 0 ≤ o ∧ o ≤ 255) (j q : Nat) : 0 ≤ bits .or .u8 o (mk j) ∧ bits .or .u8 o (mk j) ≤ 255 ∧ bitv (bits .or .u8 o (mk j)) q = (bitv o q || decide (q % 8 = j % 8)) := by
  have := fin_or ⟨o.toNat, by omega⟩ ⟨j % 8, by omega⟩ ⟨q % 8, by omega⟩
  simp only [Int.toNat_of_nonneg h.1] at this
  rw [mk_mod j, bitv_mod _ q, bitv_mod o q]
  exact this
theorem not_law (o : Int) (h : 0 ≤ o ∧ o ≤ 255) (j q : Nat) : 0 ≤ bits .andNot .u8 o (mk j) ∧ bits .andNot .u8 o (mk j) ≤ 255 ∧ bitv (bits .andNot .u8 o (mk j)) q = (bitv o q && !decide (q % 8 = j % 8)) := by
  have := fin_not ⟨o.toNat, by omega⟩ ⟨j % 8, by omega⟩ ⟨q % 8, by omega⟩
  simp only [Int.toNat_of_nonneg h.1] at this
  rw [mk_mod j, bitv_mod _ q, bitv_mod o q]
  exact this

def orAt (os : List Int) (j : Nat) : List Int := os.set (j / 8) (bits .or .u8 (os.getD (j / 8) 0) (mk j))
def notAt (os : List Int) (j : Nat) : List Int := os.set (j / 8) (bits .andNot .u8 (os.getD (j / 8) 0) (mk j))

theorem getD_set_same (os : List Int) (k : Nat) (x : Int) (h : k < os.length) : (os.set k x).getD k 0 = x := by simp [List.getD, h]
theorem getD_set_other (os : List Int) (k q : Nat) (x : Int) (h : k ≠ q) : (os.set k x).getD q 0 = os.getD q 0 := by simp [List.getD, List.getElem?_set_ne h]

theorem bitAt_or (os : List Int) (hok : Okay os) (j q : Nat) (hj : j < 8 * os.length) : bitAt (orAt os j) q = (bitAt os q || decide (q = j)) := by
  unfold bitAt orAt
  by_cases e : j / 8 = q / 8
  · rw [← e, getD_set_same _ _ _ (by omega), (or_law _ (hok.at _) j q).2.2]
    congr 1
    exact decide_eq_decide.2 ⟨fun h => by omega, fun h => by rw [h]⟩
  · rw [getD_set_other _ _ _ _ e]
    have : decide (q = j) = false := by simp; intro h; exact e (by rw [h])
    rw [this, Bool.or_false]
theorem bitAt_not (os : List Int) (hok : Okay os) (j q : Nat) (hj : j < 8 * os.length) : bitAt (notAt os j) q = (bitAt os q && !decide (q = j)) := by
  unfold bitAt notAt
  by_cases e : j / 8 = q / 8
  · rw [← e, getD_set_same _ _ _ (by omega), (not_law _ (hok.at _) j q).2.2]
    congr 2
    exact decide_eq_decide.2 ⟨fun h => by omega, fun h => by rw [h]⟩
  · rw [getD_set_other _ _ _ _ e]
    have : decide (q = j) = false := by simp; intro h; exact e (by rw [h])
    rw [this]; simp
theorem okay_or (os : List Int) (hok : Okay os) (j : Nat) : Okay (orAt os j) := hok.set _ _ ⟨(or_law _ (hok.at _) j 0).1, (or_law _ (hok.at _) j 0).2.1⟩
theorem okay_not (os : List Int) (hok : Okay os) (j : Nat) : Okay (notAt os j) := hok.set _ _ ⟨(not_law _ (hok.at _) j 0).1, (not_law _ (hok.at _) j 0).2.1⟩
theorem len_or (os : List Int) (j : Nat) : (orAt os j).length = os.length := by simp [orAt]
theorem len_not (os : List Int) (j : Nat) : (notAt os j).length = os.length := by simp [notAt]

/-- How many of the first n bits are set; how many are not. -/
def cnt (os : List Int) : Nat → Nat
  | 0 => 0
  | n + 1 => cnt os n + (if bitAt os n then 1 else 0)
def zer (os : List Int) : Nat → Nat
  | 0 => 0
  | n + 1 => zer os n + (if bitAt os n then 0 else 1)

theorem cnt_zer (os : List Int) (n : Nat) : cnt os n + zer os n = n := by
  induction n with
  | zero => rfl
  | succ n ih => simp only [cnt, zer]; split <;> omega
theorem cnt_full (os : List Int) (n : Nat) : cnt os n = n ↔ ∀ j, j < n → bitAt os j = true := by
  induction n with
  | zero => simp [cnt]
  | succ n ih =>
    have := cnt_zer os n
    simp only [cnt]
    constructor
    · intro h j hj
      split at h
      · rename_i hb
        by_cases e : j = n
        · rw [e]; exact hb
        · exact ih.1 (by omega) j (by omega)
      · omega
    · intro h
      rw [if_pos (h n (by omega)), ih.2 fun j hj => h j (by omega)]
theorem cnt_pad (os : List Int) (n m : Nat) (hnm : n ≤ m) (h : ∀ j, n ≤ j → j < m → bitAt os j = false) : cnt os m = cnt os n := by
  induction m with
  | zero => have : n = 0 := by omega
            rw [this]
  | succ m ih =>
    by_cases e : n = m + 1
    · rw [e]
    · simp only [cnt]
      rw [h m (by omega) (by omega), ih (by omega) fun j h1 h2 => h j h1 (by omega)]
      simp

/-- The sum that Ones makes. -/
def ones (os : List Int) : Nat → Int
  | 0 => 0
  | k + 1 => ones os k + Lib.pop8 (os.getD k 0)

theorem cnt8 (os : List Int) (hok : Okay os) (k : Nat) : ((cnt os (8 * k + 8) : Nat) : Int) = cnt os (8 * k) + Lib.pop8 (os.getD k 0) := by
  have p := fin_pop ⟨(os.getD k 0).toNat, by have := hok.at k; omega⟩
  simp only [Int.toNat_of_nonneg (hok.at k).1] at p
  rw [p]
  have e : ∀ r, r < 8 → bitAt os (8 * k + r) = bitv (os.getD k 0) r := fun r hr => by
    unfold bitAt
    rw [show (8 * k + r) / 8 = k by omega, bitv_mod _ (8 * k + r), show (8 * k + r) % 8 = r by omega]
  have e0 := e 0 (by omega)
  rw [Nat.add_zero] at e0
  simp only [cnt, e0, e 1 (by omega), e 2 (by omega), e 3 (by omega), e 4 (by omega), e 5 (by omega), e 6 (by omega), e 7 (by omega), b2i]
  cases bitv (os.getD k 0) 0 <;> cases bitv (os.getD k 0) 1 <;> cases bitv (os.getD k 0) 2 <;> cases bitv (os.getD k 0) 3 <;> cases bitv (os.getD k 0) 4 <;> cases bitv (os.getD k 0) 5 <;> cases bitv (os.getD k 0) 6 <;> cases bitv (os.getD k 0) 7 <;> simp <;> omega

theorem ones_eq (os : List Int) (hok : Okay os) (k : Nat) : ones os k = ((cnt os (8 * k) : Nat) : Int) := by
  induction k with
  | zero => rfl
  | succ k ih =>
    have := cnt8 os hok k
    simp only [ones]
    rw [ih, show 8 * (k + 1) = 8 * k + 8 by omega, this]

theorem ones_bd (os : List Int) (hok : Okay os) (k : Nat) : 0 ≤ ones os k ∧ ones os k ≤ 8 * k := by
  rw [ones_eq os hok]
  have := cnt_zer os (8 * k)
  omega

/-- Is every octet nought? -/
def allz (os : List Int) : Bool := os.all (· == 0)
theorem allz_iff (os : List Int) (hok : Okay os) : allz os = true ↔ ∀ j, j < 8 * os.length → bitAt os j = false := by
  unfold allz
  rw [List.all_eq_true]
  constructor
  · intro h j hj
    have hz : os.getD (j / 8) 0 = 0 := by
      have hm : os.getD (j / 8) 0 ∈ os := by simp [List.getD, show j / 8 < os.length by omega]
      simpa using h _ hm
    unfold bitAt
    rw [hz, bitv_mod]
    exact fin_zero ⟨j % 8, by omega⟩
  · intro h o ho
    obtain ⟨k, hk, rfl⟩ := List.getElem_of_mem ho
    have hg : os.getD k 0 = os[k] := by simp [List.getD, hk]
    have hb := hok _ ho
    have := fin_none ⟨os[k].toNat, by omega⟩ (fun q => by
      have hq := h (8 * k + q.val) (by omega)
      unfold bitAt at hq
      rw [show (8 * k + q.val) / 8 = k by omega, bitv_mod, show (8 * k + q.val) % 8 = q.val by omega, hg] at hq
      simp only [Int.toNat_of_nonneg hb.1]
      exact hq)
    simp only at this
    simp
    omega

/-- Full, as the machine reckons it. -/
def full (os : List Int) (n : Nat) : Bool := decide ((ones os os.length : Int) = (n : Int))
theorem full_iff (os : List Int) (hok : Okay os) (n : Nat) (hn : n ≤ 8 * os.length) (hv : ∀ j, n ≤ j → j < 8 * os.length → bitAt os j = false) : full os n = true ↔ ∀ j, j < n → bitAt os j = true := by
  unfold full
  rw [decide_eq_true_eq, ones_eq os hok, cnt_pad os n (8 * os.length) hn hv, ← cnt_full]
  omega

/-- The complement. -/
theorem comp_law (os cs : List Int) (ho : Okay os) (hc : Okay cs) (hl : cs.length = os.length) (n : Nat) (hn : n ≤ 8 * os.length) (hv : ∀ j, n ≤ j → j < 8 * os.length → bitAt os j = false)
    (h : ∀ j, j < 8 * os.length → bitAt cs j = (decide (j < n) && !bitAt os j)) : full os n = allz cs ∧ full cs n = allz os := by
  constructor
  · rw [Bool.eq_iff_iff, full_iff os ho n hn hv, allz_iff cs hc, hl]
    constructor
    · intro h1 j hj
      rw [h j hj]
      by_cases e : j < n
      · simp [h1 j e]
      · simp [e]
    · intro h1 j hj
      have := h j (by omega)
      rw [h1 j (by omega)] at this
      simpa [hj] using this.symm
  · rw [Bool.eq_iff_iff, full_iff cs hc n (by omega) (fun j h1 h2 => by rw [h j (by omega)]; simp; omega), allz_iff os ho]
    constructor
    · intro h1 j hj
      by_cases e : j < n
      · have := h1 j e
        rw [h j hj] at this
        simpa [e] using this
      · exact hv j (by omega) hj
    · intro h1 j hj
      rw [h j (by omega), h1 j (by omega)]
      simp [hj]

/-- One bit set, one bit cleared. -/
theorem cnt_or (os : List Int) (hok : Okay os) (i : Nat) (hi : i < 8 * os.length) (n : Nat) : cnt (orAt os i) n = cnt os n + (if i < n ∧ bitAt os i = false then 1 else 0) := by
  induction n with
  | zero => simp [cnt]
  | succ n ih =>
    simp only [cnt]
    rw [ih, bitAt_or os hok i n hi]
    by_cases e : n = i
    · subst e
      cases hb : bitAt os n <;> simp
    · have : decide (n = i) = false := by simpa using e
      rw [this, Bool.or_false]
      by_cases hlt : i < n
      · simp [hlt, show i < n + 1 by omega]; omega
      · simp [hlt, show ¬ i < n + 1 by omega]

theorem one_law (os : List Int) (hok : Okay os) (i n : Nat) (hn : n ≤ 8 * os.length) (hi : i < n) (hv : ∀ j, n ≤ j → j < 8 * os.length → bitAt os j = false) :
    full (notAt os i) n = false ∧ full os n = decide (zer os n = 0) ∧ full (orAt os i) n = (decide (zer os n = 0) || (decide (zer os n = 1) && !bitAt os i)) := by
  refine ⟨?_, ?_, ?_⟩
  · cases hf : full (notAt os i) n with
    | false => rfl
    | true =>
      have := (full_iff (notAt os i) (okay_not os hok i) n (by rw [len_not]; exact hn) (fun j h1 h2 => by rw [len_not] at h2; rw [bitAt_not os hok i j (by omega), hv j h1 h2]; rfl)).1 hf i hi
      rw [bitAt_not os hok i i (by omega)] at this
      simp at this
  · have h1 := cnt_zer os n
    rw [Bool.eq_iff_iff, full_iff os hok n hn hv, ← cnt_full, decide_eq_true_eq]
    omega
  · have h1 := cnt_zer os n
    have h2 := cnt_or os hok i (by omega) n
    rw [Bool.eq_iff_iff, full_iff (orAt os i) (okay_or os hok i) n (by rw [len_or]; exact hn) (fun j a b => by
      rw [len_or] at b; rw [bitAt_or os hok i j (by omega), hv j a b]; simp; omega), ← cnt_full, h2]
    have hz : bitAt os i = false → 1 ≤ zer os n := by
      intro hb
      have : ¬ cnt os n = n := fun e => by
        have := (cnt_full os n).1 e i hi
        rw [hb] at this; cases this
      omega
    simp only [Bool.or_eq_true, Bool.and_eq_true, decide_eq_true_eq, Bool.not_eq_true']
    cases hb : bitAt os i with
    | true => simp; omega
    | false =>
      have := hz hb
      simp [hi]
      omega

end Go.Proofs.Qxb6614246a.cnt
