import Derived.Test.Qxb6608961aHexE
namespace Go.Proofs.Qxb6608961a.hex
open Go.RowKit
set_option linter.unusedVariables false

theorem St.runs_outlen (s : St) (vs : List Int) (h : 0 ≤ s.dg) : ((s.runs vs).out.length : Int) = s.out.length + (s.dg % 2 + vs.length) / 2 := by
  induction vs generalizing s with
  | nil => simp [St.runs]; omega
  | cons x r ih =>
    have e : s.runs (x :: r) = (s.step x).runs r := rfl
    rw [e, ih (s.step x) (by rw [St.step_dg]; omega), St.step_dg]
    by_cases hp : s.dg % 2 = 1
    · have es : s.step x = ⟨s.out ++ [joinB s.hi x], s.dg + 1, s.hi⟩ := by simp [St.step, hp]
      rw [es]
      simp
      omega
    · have hp0 : s.dg % 2 = 0 := by omega
      have es : s.step x = ⟨s.out, s.dg + 1, x⟩ := by simp [St.step, hp0]
      rw [es]
      simp
      omega

theorem own_nil {w : World} {B n c : Nat} {a : Option Addr} {zs : List Int} (h : w.ownsRow B 5 1 (.slice a n c) n (zs.map (Value.int .u8))) : a = none → zs = [] ∧ c = 0 := by
  intro ha
  subst ha
  rcases h.2 with ⟨h', h0⟩ | ⟨g, cap, cur, h', _⟩
  · simp at h'
    have := h.1
    simp at this
    exact ⟨List.eq_nil_of_length_eq_zero (by omega), h'.2⟩
  · simp at h'

set_option maxRecDepth 100000 in
/-- The early ways out. -/
theorem early4 (a0 a3 : Option Addr) (l0 c0 l3 c3 : Nat) (dg hi cut : Int) (w : World) (m0 : l0 ≤ 9223372036854775807) (m3 : l3 ≤ 9223372036854775807)
    (h : ¬ (l0 + l3 ≤ 1048576 ∧ l0 ≤ 524288 ∧ l3 ≤ 524288 ∧ 0 ≤ dg ∧ dg ≤ 1073741824 ∧ 0 ≤ cut ∧ cut ≤ l3)) :
    Calls Try.prog 4 #[.slice a0 l0 c0, .int .i64 dg, .int .u8 hi, .slice a3 l3 c3, .int .i64 cut] w fun e w' => e = .returned (.bool true) ∧ Below w.heap.size w w' := by
  by_cases hs : l0 + l3 ≤ 1048576
  · by_cases e0 : l0 ≤ 524288
    · by_cases e3 : l3 ≤ 524288
      · by_cases d0 : 0 ≤ dg
        · by_cases d1 : dg ≤ 1073741824
          · by_cases q0 : 0 ≤ cut
            · have hh : l3 < cut := by omega
              clear h
              go_enter Try.func4, Try.ntmps4
              go_wp2_with (go_at_call 13; refine (small13 _ _ _ _ _ _ _ _ _ _ hs).mono ?_; rintro e w' ⟨rfl, rfl⟩)
              go_ret
              exact ⟨rfl, Below.refl _ _⟩
            · have hh : cut < 0 := by omega
              clear h
              go_enter Try.func4, Try.ntmps4
              go_wp2_with (go_at_call 13; refine (small13 _ _ _ _ _ _ _ _ _ _ hs).mono ?_; rintro e w' ⟨rfl, rfl⟩)
              go_ret
              exact ⟨rfl, Below.refl _ _⟩
          · have hh : 1073741824 < dg := by omega
            clear h
            go_enter Try.func4, Try.ntmps4
            go_wp2_with (go_at_call 13; refine (small13 _ _ _ _ _ _ _ _ _ _ hs).mono ?_; rintro e w' ⟨rfl, rfl⟩)
            go_ret
            exact ⟨rfl, Below.refl _ _⟩
        · have hh : dg < 0 := by omega
          clear h
          go_enter Try.func4, Try.ntmps4
          go_wp2_with (go_at_call 13; refine (small13 _ _ _ _ _ _ _ _ _ _ hs).mono ?_; rintro e w' ⟨rfl, rfl⟩)
          go_ret
          exact ⟨rfl, Below.refl _ _⟩
      · clear h
        go_enter Try.func4, Try.ntmps4
        go_wp2_with (go_at_call 13; refine (small13 _ _ _ _ _ _ _ _ _ _ hs).mono ?_; rintro e w' ⟨rfl, rfl⟩)
        go_ret
        exact ⟨rfl, Below.refl _ _⟩
    · clear h
      go_enter Try.func4, Try.ntmps4
      go_wp2_with (go_at_call 13; refine (small13 _ _ _ _ _ _ _ _ _ _ hs).mono ?_; rintro e w' ⟨rfl, rfl⟩)
      go_ret
      exact ⟨rfl, Below.refl _ _⟩
  · clear h
    go_enter Try.func4, Try.ntmps4
    go_wp2_with (go_at_call 13; refine (large13 _ _ _ _ _ _ _ _ _ _ m0 m3 hs).mono ?_; rintro e w' ⟨rfl, rfl⟩)
    go_ret
    exact ⟨rfl, Below.refl _ _⟩

/-- One more digit, told of the state behind the first k. -/
theorem digit_take (B d : Nat) (v : Value) (s0 : St) (vs : List Int) (k : Nat) (y : Int) (w : World) (hd : Dec w B d v (s0.runs (vs.take k)).dg (s0.runs (vs.take k)).hi (s0.runs (vs.take k)).out) (h0 : 0 ≤ s0.dg) (h1 : s0.dg ≤ 1073741824)
    (hn : s0.out.length ≤ 1073741824) (hk : k < vs.length) (hv : vs.length ≤ 1073741824) (hy : vs.getD k 0 = y) :
    Calls Try.prog 10 #[.pointer (some ⟨d, 0, none⟩), .int .u8 y] w fun e w' => e = .returned (.tuple #[]) ∧ ∃ v', Dec w' B d v' (s0.runs (vs.take (k + 1))).dg (s0.runs (vs.take (k + 1))).hi (s0.runs (vs.take (k + 1))).out ∧ Below B w w' := by
  rw [runs_take s0 vs k hk, hy]
  have a1 := s0.runs_dg (vs.take k)
  have a2 := s0.runs_len (vs.take k)
  simp at a1 a2
  exact digit10 B d v (s0.runs (vs.take k)) y w hd (by omega) (by omega) (by omega)

set_option maxHeartbeats 2000000 in
set_option maxRecDepth 100000 in
theorem core4 (a0 a3 : Option Addr) (l0 c0 l3 c3 ct : Nat) (out vs : List Int) (dg hi : Int) (w : World) (r0 : Rd w a0 out) (r3 : Rd w a3 vs) (HN : Hid (a0 = none → out = [] ∧ c0 = 0))
    (L0 : Hid (out.length = l0)) (L3 : Hid (vs.length = l3)) (hs : l0 + l3 ≤ 1048576) (e0 : l0 ≤ 524288) (e3 : l3 ≤ 524288) (d0 : 0 ≤ dg) (d1 : dg ≤ 1073741824) (hct : ct ≤ l3) :
    Calls Try.prog 4 #[.slice a0 l0 c0, .int .i64 dg, .int .u8 hi, .slice a3 l3 c3, .int .i64 ct] w fun e w' => e = .returned (.bool true) ∧ Below w.heap.size w w' := by
  obtain ⟨s0, hs0⟩ : ∃ s0, s0 = St.mk out dg hi := ⟨_, rfl⟩
  have H0 : Hid (s0 = St.mk out dg hi) := hs0
  have H1 : Hid (0 ≤ s0.dg ∧ s0.dg ≤ 1073741824 ∧ s0.out.length ≤ 1073741824 ∧ vs.length ≤ 1073741824) := by
    rw [hs0]; exact ⟨d0, d1, by have := L0.out; show out.length ≤ _; omega, by have := L3.out; omega⟩
  have H2 : Hid (∀ k, (s0.runs (vs.take k)).out.length ≤ 2097152) := by
    intro k
    have := s0.runs_len (vs.take k)
    rw [hs0] at this ⊢
    have := L0.out
    have := L3.out
    simp at *
    omega
  clear hs0
  go_enter Try.func4, Try.ntmps4
  go_wp2_with (first | (go_at_call 13; refine (small13 _ _ _ _ _ _ _ _ _ _ hs).mono ?_; rintro e w' ⟨rfl, rfl⟩) | (go_at_call 9; refine (clone_len a0 c0 l0 out _ r0 HN.out L0.out (by omega)).mono ?_; rintro e w1 ⟨a1, c1, rfl, own1, b1⟩) | (go_at_call 8; refine (new8 _ _ _ _ _ _).mono ?_; rintro e w2 ⟨rfl, rfl⟩))
  have hD0 : Dec (w1.alloc (.cells (cells7 (.slice a1 l0 c1) dg hi) 43)) w.heap.size w1.heap.size (.slice a1 l0 c1) (s0.runs (vs.take 0)).dg (s0.runs (vs.take 0)).hi (s0.runs (vs.take 0)).out := by rw [H0.out]; exact Dec.new (xs := out) (by rw [L0.out]; exact own1) b1.size
  have hB0 : Below w.heap.size w (w1.alloc (.cells (cells7 (.slice a1 l0 c1) dg hi) 43)) := b1.alloc b1.size _
  clear own1
  go_loopw [12] (fun i wr => ∃ k : Nat, k ≤ l3 ∧ i = .int .i64 k ∧ ∃ v, Dec wr w.heap.size w1.heap.size v (s0.runs (vs.take k)).dg (s0.runs (vs.take k)).hi (s0.runs (vs.take k)).out ∧ Below w.heap.size w wr) (fun i _ => l3 - (intOf i).toNat)
  case atStart => exact ⟨0, Nat.zero_le _, rfl, _, hD0, hB0⟩
  case round =>
    obtain ⟨k, hk, rfl, v, hD, hB⟩ := hrel
    clear hD0 hB0
    by_cases hlt : k < l3
    · rcases r3 with h | ⟨b, off, ha3, hc⟩
      · have := L3.out; rw [h] at this; simp at this; omega
      subst ha3
      have hck := cell_later hB (hc k (by rw [L3.out]; exact hlt))
      obtain ⟨y, hy⟩ : ∃ y, vs.getD k 0 = y := ⟨_, rfl⟩
      rw [hy] at hck
      have HY : Hid (vs.getD k 0 = y) := hy
      clear hy hc
      go_wp2_with (go_at_call 10; refine (digit_take _ _ _ s0 vs k y _ hD H1.out.1 H1.out.2.1 H1.out.2.2.1 (by rw [L3.out]; exact hlt) H1.out.2.2.2 HY.out).mono ?_; rintro e w2 ⟨rfl, v', hD', hb'⟩)
      go_roundw
      case rel => exact ⟨k + 1, by omega, by go_num, v', hD', hB.trans hb'⟩
      case measure => simp [intOf]; omega
    · rw [List.take_of_length_le (by rw [L3.out]; omega)] at hD
      have hek : l3 = k := by omega
      subst hek
      obtain ⟨s, hs'⟩ : ∃ s, s = s0.runs vs := ⟨_, rfl⟩
      have HS : Hid (s = s0.runs vs) := hs'
      rw [← hs'] at hD
      clear hs'
      obtain ⟨aA, cA, hvA⟩ := own_slice hD.row
      subst hvA
      obtain ⟨wA, hwA⟩ : ∃ wA, wA = wr := ⟨_, rfl⟩
      subst hwA
      have rA := (Rd.of_own hD.row).2
      go_wp2_with (first | (go_at_call 11; refine (state11 _ _ _ s _ hD).mono ?_; rintro e w2 ⟨rfl, hsame⟩) | (go_at_call 9; refine (clone_len a0 c0 l0 out _ (r0.mono (hB.trans (hsame.2.mono hB.size))) HN.out L0.out (by omega)).mono ?_; rintro e w3 ⟨a3', c3', rfl, own3, b3⟩) | (go_at_call 8; refine (new8 _ _ _ _ _ _).mono ?_; rintro e w4 ⟨rfl, rfl⟩))
      have hB2 : Below w.heap.size w w2 := hB.trans (hsame.2.mono hB.size)
      have rA2 : Rd w2 aA s.out := rA.mono hsame.2
      have hD0 : Dec (w3.alloc (.cells (cells7 (.slice a3' l0 c3') dg hi) 43)) w2.heap.size w3.heap.size (.slice a3' l0 c3') (s0.runs (vs.take 0)).dg (s0.runs (vs.take 0)).hi (s0.runs (vs.take 0)).out := by rw [H0.out]; exact Dec.new (xs := out) (by rw [L0.out]; exact own3) b3.size
      have hB0 : Below w2.heap.size w2 (w3.alloc (.cells (cells7 (.slice a3' l0 c3') dg hi) 43)) := b3.alloc b3.size _
      clear own3 hD hsame rA hB
      go_loopw [17] (fun i wr => ∃ k : Nat, k ≤ ct ∧ i = .int .i64 k ∧ ∃ v, Dec wr w2.heap.size w3.heap.size v (s0.runs (vs.take k)).dg (s0.runs (vs.take k)).hi (s0.runs (vs.take k)).out ∧ Below w2.heap.size w2 wr) (fun i _ => ct - (intOf i).toNat)
      case atStart => exact ⟨0, Nat.zero_le _, rfl, _, hD0, hB0⟩
      case round =>
        obtain ⟨k, hk, rfl, v, hD, hB⟩ := hrel
        clear hD0 hB0
        by_cases hlt : k < ct
        · rcases r3 with h | ⟨b, off, ha3, hc⟩
          · have := L3.out; rw [h] at this; simp at this; omega
          subst ha3
          have hck := cell_later (hB2.trans (hB.mono hB2.size)) (hc k (by rw [L3.out]; omega))
          obtain ⟨y, hy⟩ : ∃ y, vs.getD k 0 = y := ⟨_, rfl⟩
          rw [hy] at hck
          have HY : Hid (vs.getD k 0 = y) := hy
          clear hy hc
          go_wp2_with (go_at_call 10; refine (digit_take _ _ _ s0 vs k y _ hD H1.out.1 H1.out.2.1 H1.out.2.2.1 (by rw [L3.out]; omega) H1.out.2.2.2 HY.out).mono ?_; rintro e w5 ⟨rfl, v', hD', hb'⟩)
          go_roundw
          case rel => exact ⟨k + 1, by omega, by go_num, v', hD', hB.trans hb'⟩
          case measure => simp [intOf]; omega
        · have hek : ct = k := by omega
          subst hek
          obtain ⟨sB, hsB⟩ : ∃ sB, sB = s0.runs (vs.take ct) := ⟨_, rfl⟩
          have HSB : Hid (sB = s0.runs (vs.take ct)) := hsB
          rw [← hsB] at hD
          clear hsB
          obtain ⟨aB, cB, hvB⟩ := own_slice hD.row
          subst hvB
          obtain ⟨wB, hwB⟩ : ∃ wB, wB = wr := ⟨_, rfl⟩
          subst hwB
          have rB := (Rd.of_own hD.row).2
          have nB : Hid (aB = none → sB.out = [] ∧ cB = 0) := own_nil hD.row
          have lB : sB.out.length ≤ 1073741824 := by rw [HSB.out]; have := H2.out ct; omega
          go_wp2_with (first | (go_at_call 11; refine (state11 _ _ _ sB _ hD).mono ?_; rintro e w5 ⟨rfl, hsame⟩) | (go_at_call 9; refine (clone_len aB cB _ sB.out _ (rB.mono hsame.2) nB.out rfl lB).mono ?_; rintro e w6 ⟨a6, c6, rfl, own6, b6⟩) | (go_at_call 8; refine (new8 _ _ _ _ _ _).mono ?_; rintro e w7 ⟨rfl, rfl⟩))
          have b5 : Below w2.heap.size w2 w5 := hB.trans (hsame.2.mono hB.size)
          have hB5 : Below w.heap.size w w5 := hB2.trans (b5.mono hB2.size)
          have rA5 : Rd w5 aA s.out := rA2.mono b5
          have hD0 : Dec (w6.alloc (.cells (cells7 (.slice a6 sB.out.length c6) sB.dg sB.hi) 43)) w5.heap.size w6.heap.size (.slice a6 sB.out.length c6) (s0.runs (vs.take ct)).dg (s0.runs (vs.take ct)).hi (s0.runs (vs.take ct)).out := by rw [← HSB.out]; exact Dec.new own6 b6.size
          have hB0 : Below w5.heap.size w5 (w6.alloc (.cells (cells7 (.slice a6 sB.out.length c6) sB.dg sB.hi) 43)) := b6.alloc b6.size _
          clear own6 hD hsame rB hB rA2 b5 nB
          go_loopw [22] (fun i wr => ∃ k : Nat, k ≤ l3 ∧ i = .int .i64 k ∧ ∃ v, Dec wr w5.heap.size w6.heap.size v (s0.runs (vs.take k)).dg (s0.runs (vs.take k)).hi (s0.runs (vs.take k)).out ∧ Below w5.heap.size w5 wr) (fun i _ => l3 - (intOf i).toNat)
          case atStart => exact ⟨ct, hct, rfl, _, hD0, hB0⟩
          case round =>
            obtain ⟨k, hk, rfl, v, hD, hB⟩ := hrel
            clear hD0 hB0
            by_cases hlt : k < l3
            · rcases r3 with h | ⟨b, off, ha3, hc⟩
              · have := L3.out; rw [h] at this; simp at this; omega
              subst ha3
              have hck := cell_later (hB5.trans (hB.mono hB5.size)) (hc k (by rw [L3.out]; omega))
              obtain ⟨y, hy⟩ : ∃ y, vs.getD k 0 = y := ⟨_, rfl⟩
              rw [hy] at hck
              have HY : Hid (vs.getD k 0 = y) := hy
              clear hy hc
              go_wp2_with (go_at_call 10; refine (digit_take _ _ _ s0 vs k y _ hD H1.out.1 H1.out.2.1 H1.out.2.2.1 (by rw [L3.out]; omega) H1.out.2.2.2 HY.out).mono ?_; rintro e w8 ⟨rfl, v', hD', hb'⟩)
              go_roundw
              case rel => exact ⟨k + 1, by omega, by go_num, v', hD', hB.trans hb'⟩
              case measure => simp [intOf]; omega
            · rw [List.take_of_length_le (by rw [L3.out]; omega), ← HS.out] at hD
              have hek : l3 = k := by omega
              subst hek
              obtain ⟨aC, cC, hvC⟩ := own_slice hD.row
              subst hvC
              obtain ⟨wC, hwC⟩ : ∃ wC, wC = wr := ⟨_, rfl⟩
              subst hwC
              have rC := (Rd.of_own hD.row).2
              have hBf := hB5.trans (hB.mono hB5.size)
              have rAf := rA5.mono hB
              have hlen8 : s.out.length ≤ 1073741824 := by
                rw [HS.out]; have := H2.out vs.length; rw [List.take_length] at this; omega
              have hdg : (s.dg != dg + (l3 : Int)) = false := by rw [HS.out, St.runs_dg, H0.out, L3.out]; simp
              have hol : ((s.out.length : Int) != (l0 : Int) + (dg % 2 + (l3 : Int)) / 2) = false := by
                rw [HS.out, St.runs_outlen _ _ (by rw [H0.out]; exact d0), H0.out, L3.out]
                show (((out.length : Int) + (dg % 2 + (l3 : Int)) / 2) != _) = false
                rw [L0.out]; simp
              clear hB rA5
              go_wp2_with (first | (go_at_call 11; refine (state11 _ _ _ s _ hD).mono ?_; rintro e w8 ⟨rfl, hsame⟩) | (go_at_call 12; refine (equal_len _ _ _ _ _ _ s.out _ (rC.mono hsame.2) (rAf.mono hsame.2) rfl rfl hlen8).mono ?_; rintro e w9 ⟨rfl, hsm⟩))
              go_ret
              have hB8 := hBf.trans (hsame.2.mono hBf.size)
              exact ⟨rfl, hB8.trans (hsm.2.mono hB8.size)⟩

end Go.Proofs.Qxb6608961a.hex
