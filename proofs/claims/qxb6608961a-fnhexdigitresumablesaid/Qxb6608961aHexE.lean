import Derived.Test.Qxb6608961aHexD
namespace Go.Proofs.Qxb6608961a.hex
open Go.RowKit
set_option linter.unusedVariables false

theorem join_fin : ∀ a b : Fin 16, joinB ((a.val : Nat) : Int) ((b.val : Nat) : Int) = ((a.val : Nat) : Int) * 16 + ((b.val : Nat) : Int) := by decide +kernel

theorem join_small (h x : Int) (h0 : 0 ≤ h) (h1 : h ≤ 15) (x0 : 0 ≤ x) (x1 : x ≤ 15) : joinB h x = h * 16 + x := by
  have := join_fin ⟨h.toNat, by omega⟩ ⟨x.toNat, by omega⟩
  simp only [Int.toNat_of_nonneg h0, Int.toNat_of_nonneg x0] at this
  exact this

/-- The state behind the digits vs. -/
def St.runs (s : St) (vs : List Int) : St := vs.foldl St.step s

theorem St.runs_snoc (s : St) (vs : List Int) (x : Int) : s.runs (vs ++ [x]) = (s.runs vs).step x := by simp [St.runs, List.foldl_append]
theorem St.runs_append (s : St) (vs ws : List Int) : s.runs (vs ++ ws) = (s.runs vs).runs ws := by simp [St.runs, List.foldl_append]
theorem St.runs_dg (s : St) (vs : List Int) : (s.runs vs).dg = s.dg + vs.length := by
  induction vs generalizing s with
  | nil => simp [St.runs]
  | cons x r ih =>
    have e : s.runs (x :: r) = (s.step x).runs r := rfl
    rw [e, ih, St.step_dg]
    simp; omega
theorem St.runs_len (s : St) (vs : List Int) : (s.runs vs).out.length ≤ s.out.length + vs.length := by
  induction vs generalizing s with
  | nil => simp [St.runs]
  | cons x r ih =>
    have e : s.runs (x :: r) = (s.step x).runs r := rfl
    have := ih (s.step x)
    have := s.step_len x
    rw [e]
    simp; omega

theorem take_snoc (vs : List Int) (k : Nat) (h : k < vs.length) : vs.take (k + 1) = vs.take k ++ [vs.getD k 0] := by
  rw [List.take_succ_eq_append_getElem h]
  simp [List.getD, h]

theorem runs_take (s : St) (vs : List Int) (k : Nat) (h : k < vs.length) : s.runs (vs.take (k + 1)) = (s.runs (vs.take k)).step (vs.getD k 0) := by
  rw [take_snoc vs k h, St.runs_snoc]

/-- The first j pairs of a row of digits. -/
def prs (q : List Int) : Nat → List Int
  | 0 => []
  | j + 1 => prs q j ++ [q.getD (2 * j) 0 * 16 + q.getD (2 * j + 1) 0]

theorem prs_length (q : List Int) (j : Nat) : (prs q j).length = j := by induction j with
  | zero => rfl
  | succ j ih => simp [prs, ih]

theorem getD_app (q : List Int) (x : Int) (i : Nat) (h : i < q.length) : (q ++ [x]).getD i 0 = q.getD i 0 := by
  simp [List.getD, List.getElem?_append_left h]
theorem getD_last (q : List Int) (x : Int) : (q ++ [x]).getD q.length 0 = x := by simp [List.getD]

theorem prs_app (q : List Int) (x : Int) (j : Nat) (h : 2 * j ≤ q.length) : prs (q ++ [x]) j = prs q j := by
  induction j with
  | zero => rfl
  | succ j ih => simp only [prs]; rw [ih (by omega), getD_app q x _ (by omega), getD_app q x _ (by omega)]

/-- The pending digit behind the row q, 'hi' having been pending at first. -/
def pend (hi : Int) (q : List Int) : Int :=
  if q.length % 2 = 1 then q.getD (q.length - 1) 0 else if 2 ≤ q.length then q.getD (q.length - 2) 0 else hi

/-- What stood ahead of the digits: the pending one, if their count was odd. -/
def pre (dg hi : Int) : List Int := if dg % 2 = 1 then [hi] else []

/-- THE PLAIN LAW. -/
theorem runs_law (out : List Int) (dg hi : Int) (vs : List Int) (h0 : 0 ≤ dg) (hh0 : 0 ≤ hi) (hh1 : hi ≤ 15) (hv : ∀ x ∈ vs, 0 ≤ x ∧ x ≤ 15) :
    let q := pre dg hi ++ vs
    let s := (St.mk out dg hi).runs vs
    s.out = out ++ prs q (q.length / 2) ∧ s.hi = pend hi q ∧ s.dg % 2 = ((q.length % 2 : Nat) : Int) ∧ (∀ x ∈ q, 0 ≤ x ∧ x ≤ 15) := by
  intro q s
  have hall : ∀ x ∈ q, 0 ≤ x ∧ x ≤ 15 := by
    intro x hx
    rcases List.mem_append.1 hx with h | h
    · unfold pre at h
      split at h
      · simp at h; subst h; exact ⟨hh0, hh1⟩
      · simp at h
    · exact hv x h
  have key : ∀ k, k ≤ vs.length → ((St.mk out dg hi).runs (vs.take k)).out = out ++ prs (pre dg hi ++ vs.take k) ((pre dg hi ++ vs.take k).length / 2) ∧
      ((St.mk out dg hi).runs (vs.take k)).hi = pend hi (pre dg hi ++ vs.take k) ∧ ((St.mk out dg hi).runs (vs.take k)).dg % 2 = (((pre dg hi ++ vs.take k).length % 2 : Nat) : Int) := by
    intro k
    induction k with
    | zero =>
      intro _
      simp only [List.take_zero, List.append_nil]
      unfold pre
      by_cases e : dg % 2 = 1
      · simp [e, St.runs, prs, pend]
      · have e0 : dg % 2 = 0 := by omega
        simp [e0, St.runs, prs, pend]
    | succ k ih =>
      intro hk
      obtain ⟨i1, i2, i3⟩ := ih (by omega)
      obtain ⟨x, hx⟩ : ∃ x, x = vs.getD k 0 := ⟨_, rfl⟩
      have hxm : x ∈ vs := by rw [hx]; simp [List.getD, show k < vs.length by omega]
      rw [runs_take _ _ _ (by omega), take_snoc vs k (by omega), ← hx, ← List.append_assoc]
      have hallk : ∀ y ∈ pre dg hi ++ vs.take k, 0 ≤ y ∧ y ≤ 15 := fun y hy => hall y (by
        rcases List.mem_append.1 hy with h | h
        · exact List.mem_append_left _ h
        · exact List.mem_append_right _ (List.mem_of_mem_take h))
      generalize (St.mk out dg hi).runs (vs.take k) = s at i1 i2 i3 ⊢
      generalize pre dg hi ++ vs.take k = q at i1 i2 i3 hallk ⊢
      have hlen : (q ++ [x]).length = q.length + 1 := by simp
      by_cases hp : q.length % 2 = 1
      · have ho : (s.dg % 2 == 1) = true := by rw [i3]; simp [hp]
        have es : s.step x = ⟨s.out ++ [joinB s.hi x], s.dg + 1, s.hi⟩ := by simp [St.step, ho]
        have eh : s.hi = q.getD (q.length - 1) 0 := by rw [i2]; simp [pend, hp]
        have hm : q.getD (q.length - 1) 0 ∈ q := by simp [List.getD, show q.length - 1 < q.length by omega]
        have hb := hallk _ hm
        have hxb := hv x hxm
        rw [es]
        refine ⟨?_, ?_, ?_⟩
        · show s.out ++ [joinB s.hi x] = _
          rw [join_small _ _ (by rw [eh]; exact hb.1) (by rw [eh]; exact hb.2) hxb.1 hxb.2, i1, hlen, show (q.length + 1) / 2 = q.length / 2 + 1 by omega]
          simp only [prs]
          rw [prs_app q x _ (by omega), getD_app q x _ (by omega), show 2 * (q.length / 2) + 1 = q.length by omega, getD_last, show 2 * (q.length / 2) = q.length - 1 by omega, eh, List.append_assoc]
        · show s.hi = _
          unfold pend
          rw [hlen, if_neg (by omega), if_pos (by omega), show q.length + 1 - 2 = q.length - 1 by omega, getD_app q x _ (by omega), eh]
        · show (s.dg + 1) % 2 = _
          rw [hlen]; omega
      · have ho : (s.dg % 2 == 1) = false := by rw [i3]; simp; omega
        have es : s.step x = ⟨s.out, s.dg + 1, x⟩ := by simp [St.step, ho]
        rw [es]
        refine ⟨?_, ?_, ?_⟩
        · show s.out = _
          rw [i1, hlen, show (q.length + 1) / 2 = q.length / 2 by omega, prs_app q x _ (by omega)]
        · show x = _
          unfold pend
          rw [hlen, if_pos (by omega), show q.length + 1 - 1 = q.length by omega, getD_last]
        · show (s.dg + 1) % 2 = _
          rw [hlen]; omega
  have := key vs.length (Nat.le_refl _)
  rw [List.take_length] at this
  exact ⟨this.1, this.2.1, this.2.2, hall⟩

/-- The copy, nil or not. -/
theorem clone_any (a : Option Addr) (cap : Nat) (zs : List Int) (w : World) (hr : Rd w a zs) (hnil : a = none → zs = [] ∧ cap = 0) (hlen : zs.length ≤ 1073741824) :
    Calls Try.prog 9 #[.slice a zs.length cap] w fun e w' => ∃ a' c', e = .returned (.slice a' zs.length c') ∧
      w'.ownsRow w.heap.size 5 1 (.slice a' zs.length c') zs.length (zs.map (Value.int .u8)) ∧ Below w.heap.size w w' := by
  cases a with
  | none =>
    obtain ⟨rfl, rfl⟩ := hnil rfl
    exact (clone_nil w).mono fun e w' ⟨h1, h2⟩ => by subst h2; exact ⟨none, 0, h1, World.ownsRow_nil _ _ _ _, Below.refl _ _⟩
  | some x => exact (clone_some x cap zs w hr hlen).mono fun e w' ⟨h1, h2, h3⟩ => ⟨_, _, h1, h2, h3⟩

theorem clone_len (a : Option Addr) (cap l : Nat) (zs : List Int) (w : World) (hr : Rd w a zs) (hnil : a = none → zs = [] ∧ cap = 0) (hl : zs.length = l) (hlen : l ≤ 1073741824) :
    Calls Try.prog 9 #[.slice a l cap] w fun e w' => ∃ a' c', e = .returned (.slice a' l c') ∧
      w'.ownsRow w.heap.size 5 1 (.slice a' l c') l (zs.map (Value.int .u8)) ∧ Below w.heap.size w w' := by
  subst hl
  exact clone_any a cap zs w hr hnil hlen

theorem equal_len (a b : Option Addr) (la lb ca cb : Nat) (zs : List Int) (w : World) (ha : Rd w a zs) (hb : Rd w b zs) (hla : zs.length = la) (hlb : zs.length = lb) (hlen : zs.length ≤ 1073741824) :
    Calls Try.prog 12 #[.slice a la ca, .slice b lb cb] w fun e w' => e = .returned (.bool true) ∧ Same w w' := by
  subst hla
  subst hlb
  exact equal12 a b ca cb zs w ha hb hlen

/-- What is owned can be read. -/
theorem Rd.of_own {w : World} {B : Nat} {a : Option Addr} {n c : Nat} {zs : List Int} (h : w.ownsRow B 5 1 (.slice a n c) n (zs.map (Value.int .u8))) : n = zs.length ∧ Rd w a zs := by
  have hn : n = zs.length := by have := h.1; simp at this; omega
  refine ⟨hn, ?_⟩
  subst hn
  rcases h.2 with ⟨h', h0⟩ | ⟨g, cap, cur, h', hb, hg, _⟩
  · exact .inl (List.eq_nil_of_length_eq_zero h0)
  · simp at h'
    obtain ⟨rfl, rfl⟩ := h'
    refine .inr ⟨g, 0, rfl, fun j hj => ?_⟩
    rw [Nat.zero_add, h.cellAt j (by omega)]
    simp [List.getD, hj]

theorem Rd.mono {w w' : World} {a : Option Addr} {zs : List Int} (h : Rd w a zs) (hb : Below w.heap.size w w') : Rd w' a zs := by
  rcases h with h | ⟨b, off, rfl, hc⟩
  · exact .inl h
  · exact .inr ⟨b, off, rfl, fun j hj => cell_later hb (hc j hj)⟩

/-- What is owned is a slice. -/
theorem own_slice {w : World} {B n : Nat} {v : Value} {xs : List Value} (h : w.ownsRow B 5 1 v n xs) : ∃ a c, v = .slice a n c := by
  rcases h.2 with ⟨rfl, rfl⟩ | ⟨g, cap, cur, rfl, _⟩
  · exact ⟨_, _, rfl⟩
  · exact ⟨_, _, rfl⟩

end Go.Proofs.Qxb6608961a.hex
