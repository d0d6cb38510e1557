import Derived.Test.Qxb6608961aRows
import Derived.WalkKit
import Derived.WalkSpells
import Derived.OpenShut
import Derived.Below
import Derived.Deep.QuietTactic
import Derived.BigQuiet
import Derived.Deep.AppendLies
import Derived.Deep.RegionHeld3
import Derived.Deep.DrawnRows
import Derived.Laws.OwnMore
import Derived.OneCell
namespace Go.Proofs.Qxb6608961a.chk
open Go.RowKit
set_option linter.unusedVariables false
attribute [local go_sem ↓] Go.wp_at_zero Go.wp_at_succ

/-- The elements of a slice whose elements are one cell each: what is read through it. -/
def Rd (w : World) (a : Option Addr) (cs : List Value) : Prop :=
  cs = [] ∨ ∃ b off, a = some ⟨b, off, none⟩ ∧ ∀ j u, cs[j]? = some u → w.cell? ⟨b, off + j, none⟩ = some u

theorem Rd.mono {w w' : World} {a : Option Addr} {cs : List Value} (h : Rd w a cs) (hb : Below w.heap.size w w') : Rd w' a cs := by
  rcases h with h | ⟨b, off, rfl, hc⟩
  · exact .inl h
  · exact .inr ⟨b, off, rfl, fun j u hj => cell_later hb (hc j u hj)⟩

/-- Only the count of draws has turned. -/
def Same (w w' : World) : Prop := w'.heap = w.heap ∧ Below w.heap.size w w'
theorem Same.drewN (w : World) (n : Nat) : Same w (w.drewN n) := ⟨rfl, rfl, rfl, rfl, Nat.le_refl _, fun _ _ => rfl⟩

/-- What cmp.Compare answers. -/
def cmpI (x y : Int) : Int := if x < y then -1 else if y < x then 1 else 0

theorem cmp21 (x y : Int) (w : World) : Calls Try.prog 21 #[.int .u32 x, .int .u32 y] w fun e w' => e = .returned (.int .i64 (cmpI x y)) ∧ w' = w := by
  rcases Int.lt_trichotomy x y with h | h | h
  · have e : cmpI x y = -1 := by simp [cmpI, h]
    rw [e]
    go_enter Try.func21, Try.ntmps21
    go_wp2
    go_ret
    exact ⟨rfl, rfl⟩
  · subst h
    have e : cmpI x x = 0 := by simp [cmpI]
    rw [e]
    go_enter Try.func21, Try.ntmps21
    go_wp2
    go_ret
    exact ⟨rfl, rfl⟩
  · have e : cmpI x y = 1 := by simp [cmpI, h]; omega
    have h' : ¬ x < y := by omega
    rw [e]
    go_enter Try.func21, Try.ntmps21
    go_wp2
    go_ret
    exact ⟨rfl, rfl⟩

/-- Is the list strictly ascending? -/
def asc : List Int → Bool
  | [] => true
  | [_] => true
  | x :: y :: r => decide (x < y) && asc (y :: r)

theorem asc_iff (zs : List Int) : asc zs = true ↔ ∀ k, 1 ≤ k → k < zs.length → zs.getD (k - 1) 0 < zs.getD k 0 := by
  induction zs with
  | nil => simp [asc]
  | cons x r ih =>
    cases r with
    | nil => simp [asc]; intro k h1 h2; omega
    | cons y r =>
      simp only [asc, Bool.and_eq_true, decide_eq_true_eq, ih]
      constructor
      · rintro ⟨h1, h2⟩ k hk hl
        match k, hk with
        | 1, _ => simpa using h1
        | k + 2, _ =>
          have := h2 (k + 1) (by omega) (by simp at hl ⊢; omega)
          simpa using this
      · intro h
        refine ⟨by simpa using h 1 (by omega) (by simp), fun k hk hl => ?_⟩
        have := h (k + 1) (by omega) (by simp at hl ⊢; omega)
        match k, hk with
        | k + 1, _ => simpa using this

theorem asc_false (zs : List Int) (k : Nat) (h1 : 1 ≤ k) (h2 : k < zs.length) (h : ¬ zs.getD (k - 1) 0 < zs.getD k 0) : asc zs = false := by
  cases e : asc zs with
  | false => rfl
  | true => exact absurd ((asc_iff zs).1 e k h1 h2) h

set_option maxHeartbeats 800000 in
set_option maxRecDepth 100000 in
theorem order20 (a : Option Addr) (n c : Nat) (zs : List Int) (w : World) (hr : Rd w a (zs.map (Value.int .u32))) (hn : Hid (zs.length = n)) (hb : n ≤ 1073741824) :
    Calls Try.prog 20 #[.slice a n c, .func (.func 21) #[] #[], .bool true] w fun e w' => (∃ i : Int, e = .returned (.tuple #[.int .i64 i, .bool (!asc zs)])) ∧ Same w w' := by
  by_cases h2 : n < 2
  · have ha : asc zs = true := (asc_iff zs).2 fun k h1 h3 => by have := hn.out; omega
    rw [ha]
    clear hr
    go_enter Try.func20, Try.ntmps20
    go_wp2
    refine wp_loop_rounds 1 ?_
    rw [rounds_succ]
    go_wp2
    go_ret2
    exact ⟨⟨0, rfl⟩, Same.drewN _ 0⟩
  · rcases hr with hnil | ⟨b, off, rfl, hc⟩
    · have := hn.out
      have h0 : zs = [] := by simpa using hnil
      rw [h0] at this; simp at this; omega
    have hcell : Hid (∀ j, j < n → w.cell? ⟨b, off + j, none⟩ = some (.int .u32 (zs.getD j 0))) := fun j hj => hc j _ (by have := hn.out; simp [List.getD, show j < zs.length by omega])
    clear hc
    go_enter Try.func20, Try.ntmps20
    go_wp2
    go_loopw [8] (fun i wr => ∃ k : Nat, k + 1 ≤ n ∧ i = .int .i64 ((k : Int) + 1) ∧ (∀ j, 1 ≤ j → j < k + 1 → zs.getD (j - 1) 0 < zs.getD j 0) ∧ ∃ m, wr = w.drewN m) (fun i _ => n - (intOf i).toNat)
    case atStart => exact ⟨0, by omega, rfl, (fun j h1 h2 => by omega), 0, rfl⟩
    case round =>
      obtain ⟨k, hk, rfl, hall, m, rfl⟩ := hrel
      by_cases hlt : k + 1 < n
      · have c1 := hcell.out k (by omega)
        have c2 := hcell.out (k + 1) hlt
        obtain ⟨x, hx⟩ : ∃ x, zs.getD k 0 = x := ⟨_, rfl⟩
        obtain ⟨y, hy⟩ : ∃ y, zs.getD (k + 1) 0 = y := ⟨_, rfl⟩
        rw [hx] at c1
        rw [hy] at c2
        have i2 : (k : Int) < (n : Int) := by omega
        have i3 : (k : Int) + 1 < (n : Int) := by omega
        have i6 : (0 : Int) ≤ (k : Int) + 1 := by omega
        have i4 : ((k : Int) + 1).toNat = k + 1 := by omega
        have i5 : IntKind.i64.wrap (k : Int) = (k : Int) := IntWalk.i64_in _ ⟨by omega, by omega⟩
        by_cases hxy : x < y
        · have hnext : Hid (∀ j, 1 ≤ j → j < k + 1 + 1 → zs.getD (j - 1) 0 < zs.getD j 0) := by
            intro j h1 h3
            by_cases e : j = k + 1
            · subst e; rw [hy]; show zs.getD k 0 < y; rw [hx]; exact hxy
            · exact hall j h1 (by omega)
          have hcv : cmpI x y = -1 := by simp [cmpI, hxy]
          clear hall hx hy
          go_wp2
          go_quiet ((go_at_call 21; exact (cmp21 _ _ _).mono fun _ _ h => ⟨h.1, _, h.2⟩))
          go_wp2
          go_roundw
          case rel => exact ⟨k + 1, by omega, by go_num, hnext.out, _, rfl⟩
          case measure => simp [intOf]; omega
        · have ha : Hid (asc zs = false) := asc_false zs (k + 1) (by omega) (by have := hn.out; omega) (by rw [hy]; show ¬ zs.getD k 0 < y; rw [hx]; exact hxy)
          clear hall hx hy
          by_cases hyx : y < x
          · have hcv : cmpI x y = 1 := by simp [cmpI, hyx]; omega
            go_wp2
            go_quiet ((go_at_call 21; exact (cmp21 _ _ _).mono fun _ _ h => ⟨h.1, _, h.2⟩))
            go_wp2
            go_ret2
            exact ⟨⟨_, by rw [ha.out]; rfl⟩, Same.drewN _ _⟩
          · have hcv : cmpI x y = 0 := by simp [cmpI, hxy, hyx]
            go_wp2
            go_quiet ((go_at_call 21; exact (cmp21 _ _ _).mono fun _ _ h => ⟨h.1, _, h.2⟩))
            go_wp2
            go_ret2
            exact ⟨⟨_, by rw [ha.out]; rfl⟩, Same.drewN _ _⟩
      · have ha : Hid (asc zs = true) := (asc_iff zs).2 fun j h1 h3 => hall j h1 (by have := hn.out; omega)
        clear hall
        go_wp2
        go_ret2
        exact ⟨⟨0, by rw [ha.out]; rfl⟩, Same.drewN _ m⟩

end Go.Proofs.Qxb6608961a.chk
