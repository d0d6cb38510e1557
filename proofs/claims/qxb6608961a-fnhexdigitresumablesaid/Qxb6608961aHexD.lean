import Derived.Test.Qxb6608961aHexC
namespace Go.Proofs.Qxb6608961a.hex
open Go.RowKit
set_option linter.unusedVariables false

/-- A decoder's state: the bytes out, the digits taken, the pending digit. -/
structure St where
  out : List Int
  dg : Int
  hi : Int

/-- One digit. -/
def St.step (s : St) (x : Int) : St :=
  if s.dg % 2 == 1 then ⟨s.out ++ [joinB s.hi x], s.dg + 1, s.hi⟩ else ⟨s.out, s.dg + 1, x⟩

theorem St.step_dg (s : St) (x : Int) : (s.step x).dg = s.dg + 1 := by unfold St.step; split <;> rfl
theorem St.step_len (s : St) (x : Int) : (s.step x).out.length ≤ s.out.length + 1 := by unfold St.step; split <;> simp

theorem digit_any (B d : Nat) (v : Value) (s : St) (x : Int) (w : World) (hd : Dec w B d v s.dg s.hi s.out) (h0 : 0 ≤ s.dg) (h1 : s.dg ≤ 4294967296) (hn : s.out.length ≤ 4294967296) :
    Calls Try.prog 18 #[.pointer (some ⟨d, 0, none⟩), .int .u8 x] w fun e w' => e = .returned (.tuple #[]) ∧ ∃ v', Dec w' B d v' (s.step x).dg (s.step x).hi (s.step x).out ∧ Below B w w' := by
  cases h : (s.dg % 2 == 1)
  · have e : s.step x = ⟨s.out, s.dg + 1, x⟩ := by simp [St.step, h]
    rw [e]
    exact (digit_even B d v s.dg s.hi x s.out w hd h0 h1 h).mono fun e w' ⟨a, b, c⟩ => ⟨a, v, b, c⟩
  · have e : s.step x = ⟨s.out ++ [joinB s.hi x], s.dg + 1, s.hi⟩ := by simp [St.step, h]
    rw [e]
    exact digit_odd B d v s.dg s.hi x s.out w hd h0 h1 h hn

/-- 10: the law's own door to it. -/
theorem digit10 (B d : Nat) (v : Value) (s : St) (x : Int) (w : World) (hd : Dec w B d v s.dg s.hi s.out) (h0 : 0 ≤ s.dg) (h1 : s.dg ≤ 4294967296) (hn : s.out.length ≤ 4294967296) :
    Calls Try.prog 10 #[.pointer (some ⟨d, 0, none⟩), .int .u8 x] w fun e w' => e = .returned (.tuple #[]) ∧ ∃ v', Dec w' B d v' (s.step x).dg (s.step x).hi (s.step x).out ∧ Below B w w' := by
  go_enter Try.func10, Try.ntmps10
  go_wp2_with (go_at_call 18; refine (digit_any B d v s x _ hd h0 h1 hn).mono ?_; rintro e w' ⟨rfl, hq⟩)
  go_end0
  exact ⟨rfl, hq⟩

/-- 8: a new decoder. -/
theorem new8 (a : Option Addr) (l c : Nat) (dg hi : Int) (w : World) :
    Calls Try.prog 8 #[.slice a l c, .int .i64 dg, .int .u8 hi] w fun e w' => e = .returned (.pointer (some ⟨w.heap.size, 0, none⟩)) ∧ w.alloc (.cells (cells7 (.slice a l c) dg hi) 43) = w' := by
  go_enter Try.func8, Try.ntmps8
  go_wp2
  go_ret
  exact ⟨rfl, rfl⟩

theorem Dec.new {w : World} {B : Nat} {v : Value} {dg hi : Int} {xs : List Int} (hown : w.ownsRow B 5 1 v xs.length (xs.map (Value.int .u8))) (hB : B ≤ w.heap.size) :
    Dec (w.alloc (.cells (cells7 v dg hi) 43)) B w.heap.size v dg hi xs :=
  ⟨heap_alloc_new w _, hown.alloc _, hB⟩

/-- Only the count of draws has turned. -/
def Same (w w' : World) : Prop := w'.heap = w.heap ∧ Below w.heap.size w w'

theorem Same.drewN (w : World) (n : Nat) : Same w (w.drewN n) := ⟨rfl, rfl, rfl, rfl, Nat.le_refl _, fun _ _ => rfl⟩

/-- 11: the state read off. -/
theorem state11 (B d : Nat) (v : Value) (s : St) (w : World) (hd : Dec w B d v s.dg s.hi s.out) :
    Calls Try.prog 11 #[.pointer (some ⟨d, 0, none⟩)] w fun e w' => e = .returned (.tuple #[v, .int .i64 s.dg, .int .u8 s.hi]) ∧ Same w w' := by
  have c0 := hd.at0
  have c3 := hd.at3
  have c4 := hd.at4
  go_enter Try.func11, Try.ntmps11
  go_wp2
  go_quiet (fail)
  go_wp2
  go_ret3
  exact ⟨rfl, Same.drewN _ _⟩

set_option maxHeartbeats 400000 in
/-- 12: two slices of the same bytes. -/
theorem equal12 (a b : Option Addr) (ca cb : Nat) (zs : List Int) (w : World) (ha : Rd w a zs) (hb : Rd w b zs) (hlen : zs.length ≤ 1073741824) :
    Calls Try.prog 12 #[.slice a zs.length ca, .slice b zs.length cb] w fun e w' => e = .returned (.bool true) ∧ Same w w' := by
  rcases Nat.eq_zero_or_pos zs.length with h0 | hpos
  · have hnil : zs = [] := List.eq_nil_of_length_eq_zero h0
    subst hnil
    clear ha hb h0 hlen
    simp only [List.length_nil]
    go_enter Try.func12, Try.ntmps12
    go_wp2
    refine wp_loop_rounds 1 ?_
    rw [rounds_succ]
    go_wp2
    go_ret
    exact ⟨rfl, Same.drewN _ 0⟩
  · rcases ha with rfl | ⟨ba, oa, rfl, hca⟩
    · simp at hpos
    rcases hb with rfl | ⟨bb, ob, rfl, hcb⟩
    · simp at hpos
    obtain ⟨n, hn⟩ : ∃ n, n = zs.length := ⟨_, rfl⟩
    rw [← hn] at hlen hpos hca hcb ⊢
    clear hn
    go_enter Try.func12, Try.ntmps12
    go_wp2
    go_loopw [5] (fun i wr => ∃ k : Nat, k ≤ n ∧ i = .int .i64 k ∧ ∃ m, wr = w.drewN m)
      (fun i _ => n - (intOf i).toNat)
    case atStart => exact ⟨0, Nat.zero_le _, rfl, 0, rfl⟩
    case round =>
      obtain ⟨k, hk, rfl, m, rfl⟩ := hrel
      by_cases hlt : k < n
      · have h1 := hca k hlt
        have h2 := hcb k hlt
        have i1 : (k : Int) < (n : Int) := by omega
        go_wp2
        go_quiet (fail)
        go_wp2
        go_roundw
        case rel => exact ⟨k + 1, by omega, by go_num, _, rfl⟩
        case measure => simp [intOf]; omega
      · go_wp2
        go_ret
        exact ⟨rfl, Same.drewN _ m⟩

end Go.Proofs.Qxb6608961a.hex
