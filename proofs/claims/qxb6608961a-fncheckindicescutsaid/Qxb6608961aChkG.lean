import Derived.Test.Qxb6608961aChkE
import Derived.Deep.DeepCutAuto
namespace Go.Proofs.Qxb6608961a.chk
open Go.RowKit
set_option linter.unusedVariables false
attribute [local go_sem ↓] Go.wp_at_zero Go.wp_at_succ

theorem ge_eq (x y : Int) : decide (y ≤ x) = !decide (x < y) := by by_cases h : x < y <;> simp [h] <;> omega

/-- The last of a is not below the first of b. -/
def cross (a b : List Int) : Bool := !a.isEmpty && !b.isEmpty && !decide (a.getD (a.length - 1) 0 < b.getD 0 0)
theorem bad_eq (a b : List Int) : (!asc (a ++ b)) = ((!asc a || !asc b) || cross a b) := by
  rw [asc_append]; unfold cross
  cases asc a <;> cases asc b <;> cases a.isEmpty <;> cases b.isEmpty <;> simp

set_option maxHeartbeats 4000000 in
set_option maxRecDepth 100000 in
theorem core5 (a0 a1 a2 a3 a4 : Option Addr) (l0 c0 l1 c1 l2 c2 l3 c3 l4 c4 : Nat) (rs : List Int) (ss : List ByteArray) (xs za zb : List Int) (w : World) (r0 : Rd w a0 (rs.map (Value.int .i64))) (r1 : Rd w a1 (ss.map Value.string)) (r2 : Rd w a2 (xs.map (Value.int .i64))) (r3 : Rd w a3 (za.map (Value.int .u32))) (r4 : Rd w a4 (zb.map (Value.int .u32)))
    (n0 : Hid (rs.length = l0)) (n1 : Hid (ss.length = l1)) (n2 : Hid (xs.length = l2)) (n3 : Hid (za.length = l3)) (n4 : Hid (zb.length = l4)) (hz : Hid (∀ s ∈ ss, s.size ≤ 9223372036854775807)) (t0 : l0 ≤ 16384) (t1 : l1 ≤ 16384) (t2 : l2 ≤ 16384) (t3 : l3 ≤ 32768) (t4 : l4 ≤ 32768) :
    Calls Try.prog 5 #[.slice a0 l0 c0, .slice a1 l1 c1, .slice a2 l2 c2, .slice a3 l3 c3, .slice a4 l4 c4] w fun e w' => e = .returned (.bool true) ∧ Below w.heap.size w w' := by
  obtain ⟨i3, hi3, hz30, hz31, hz32⟩ := info_parts info3
  obtain ⟨i9, hi9, hz90, hz91, hz92⟩ := info_parts info9
  obtain ⟨i36, hi36, hz360, hz361, hz362⟩ := info_parts info36
  have hq32 : ∀ (w : World) (a : Option Addr) (n c : Nat), (binOp .neq 32 (.slice a n c) (.slice none 0 0)).run Try.prog w = .ok (.bool (!a.isNone)) w := fun w a n c => run_neq_slice_nil_any w _ _ a n c 0 0 Try.underlying32
  have hq33 : ∀ (w : World) (a : Option Addr) (n c : Nat), (binOp .neq 33 (.slice a n c) (.slice none 0 0)).run Try.prog w = .ok (.bool (!a.isNone)) w := fun w a n c => run_neq_slice_nil_any w _ _ a n c 0 0 Try.underlying33
  have hq34 : ∀ (w : World) (a : Option Addr) (n c : Nat), (binOp .neq 34 (.slice a n c) (.slice none 0 0)).run Try.prog w = .ok (.bool (!a.isNone)) w := fun w a n c => run_neq_slice_nil_any w _ _ a n c 0 0 Try.underlying34
  obtain ⟨C0, hC0⟩ : ∃ C, C = rs.map (Value.int .i64) := ⟨_, rfl⟩
  obtain ⟨C1, hC1⟩ : ∃ C, C = ss.map Value.string := ⟨_, rfl⟩
  obtain ⟨C2, hC2⟩ : ∃ C, C = xs.map (Value.int .i64) := ⟨_, rfl⟩
  obtain ⟨C3, hC3⟩ : ∃ C, C = za.map (Value.int .u32) := ⟨_, rfl⟩
  obtain ⟨C4, hC4⟩ : ∃ C, C = zb.map (Value.int .u32) := ⟨_, rfl⟩
  have k0 : Hid (C0.length = l0) := by show C0.length = l0; rw [hC0, List.length_map]; exact n0
  have k1 : Hid (C1.length = l1) := by show C1.length = l1; rw [hC1, List.length_map]; exact n1
  have k2 : Hid (C2.length = l2) := by show C2.length = l2; rw [hC2, List.length_map]; exact n2
  have k3 : Hid (C3.length = l3) := by show C3.length = l3; rw [hC3, List.length_map]; exact n3
  have k4 : Hid (C4.length = l4) := by show C4.length = l4; rw [hC4, List.length_map]; exact n4
  have v0 : Hid (∀ u ∈ C0, u.oneCell' = true) := by rw [hC0]; exact one_ints _ _
  have v1 : Hid (∀ u ∈ C1, u.oneCell' = true) := by rw [hC1]; exact one_strs _
  have v2 : Hid (∀ u ∈ C2, u.oneCell' = true) := by rw [hC2]; exact one_ints _ _
  have v3 : Hid (∀ u ∈ C3, u.oneCell' = true) := by rw [hC3]; exact one_ints _ _
  have v4 : Hid (∀ u ∈ C4, u.oneCell' = true) := by rw [hC4]; exact one_ints _ _
  have x1 := r1
  rw [← hC0] at r0
  rw [← hC1] at r1
  rw [← hC2] at r2
  rw [← hC3] at r3
  rw [← hC4] at r4
  have HC0 : Hid (C0 = rs.map (Value.int .i64)) := hC0
  have HC1 : Hid (C1 = ss.map Value.string) := hC1
  have HC2 : Hid (C2 = xs.map (Value.int .i64)) := hC2
  have HC3 : Hid (C3 = za.map (Value.int .u32)) := hC3
  have HC4 : Hid (C4 = zb.map (Value.int .u32)) := hC4
  clear hC0 hC1 hC2 hC3 hC4
  go_enter Try.func5, Try.ntmps5
  go_wp2_with fail
  refine (bytes14 _ _ _ _ _ _ _ _ _ _ _ _ _ _ _ ss _ x1 n1 hz (by omega) (by omega) (by omega) (by omega) (by omega)).mono ?_
  rintro e w' ⟨rfl | ⟨rfl, hsz⟩, rfl⟩
  · go_wp2
    go_ret
    exact ⟨rfl, Below.refl _ _⟩
  have HS : Hid (∀ s ∈ ss, s.size ≤ 1048576) := hsz
  clear hsz hz x1
  go_upto_if 63 with fail
  go_cut [0] from 34 to 70 (fun s wx => ∃ a' c', s = .slice a' l0 c' ∧ Rd wx a' C0 ∧ Below w.heap.size w wx)
  case first =>
    cases a0 with
    | none =>
      go_wp2
      go_meet
      exact ⟨_, _, rfl, r0, Below.refl _ _⟩
    | some x =>
      go_wp2_with (first | (at_make; refine wpList_make_full _ rfl (.tmp 65) (.tmp 65) 32 rfl w.heap.size 3 i3 _ 1 Try.underlying32 hi3 hz30 hz31 _ _ _ _ l0 rfl rfl rfl rfl (by rw [hz32]; omega) (by unfold maxLen; omega) (Nat.le_refl _) ?_; intro wk own2 grow2; have g2 : Below w.heap.size w wk := (Below.refl _ _).grown grow2 (Nat.le_refl _) (fun k h => by cases h); have hbk := own_block own2; clear own2 grow2) | (refine wpList_copy_splice rfl (.tmp 67) (.tmp 68) 32 32 rfl 3 Try.underlying32 size3 _ _ _ _ _ _ rfl rfl w.heap.size 0 _ 3 hbk C0 (by rw [k0.out]; exact (Nat.min_self _).symm) (src_of r0 g2 _) (by rw [k0.out, made_len _ rfl]; omega) v0.out w.heap.size w g2 (Nat.le_refl _) ?_; intro wj hgj hbj))
      go_meet
      exact ⟨_, _, rfl, copied hgj.out (by rw [k0.out, made_len _ rfl]), hbj⟩
  case rest =>
  obtain ⟨wx0, hwx0⟩ : ∃ y, y = wc := ⟨_, rfl⟩
  subst hwx0
  obtain ⟨b0, d0, rfl, s00, bb0⟩ := hcut
  have s10 := r1.mono bb0
  have s20 := r2.mono bb0
  have s30 := r3.mono bb0
  have s40 := r4.mono bb0
  have bw0 : Below w.heap.size w wx0 := bb0
  clear r0 r1 r2 r3 r4 bb0
  go_upto_if 72 with fail
  go_cut [1] from 71 to 79 (fun s wx => ∃ a' c', s = .slice a' l1 c' ∧ Rd wx a' C1 ∧ Below wx0.heap.size wx0 wx)
  case first =>
    cases a1 with
    | none =>
      go_wp2
      go_meet
      exact ⟨_, _, rfl, s10, Below.refl _ _⟩
    | some x =>
      go_wp2_with (first | (at_make; refine wpList_make_full _ rfl (.tmp 74) (.tmp 74) 33 rfl wx0.heap.size 9 i9 _ 1 Try.underlying33 hi9 hz90 hz91 _ _ _ _ l1 rfl rfl rfl rfl (by rw [hz92]; omega) (by unfold maxLen; omega) (Nat.le_refl _) ?_; intro wk own2 grow2; have g2 : Below wx0.heap.size wx0 wk := (Below.refl _ _).grown grow2 (Nat.le_refl _) (fun k h => by cases h); have hbk := own_block own2; clear own2 grow2) | (refine wpList_copy_splice rfl (.tmp 76) (.tmp 77) 33 33 rfl 9 Try.underlying33 size9 _ _ _ _ _ _ rfl rfl wx0.heap.size 0 _ 9 hbk C1 (by rw [k1.out]; exact (Nat.min_self _).symm) (src_of s10 g2 _) (by rw [k1.out, made_len _ rfl]; omega) v1.out wx0.heap.size wx0 g2 (Nat.le_refl _) ?_; intro wj hgj hbj))
      go_meet
      exact ⟨_, _, rfl, copied hgj.out (by rw [k1.out, made_len _ rfl]), hbj⟩
  case rest =>
  obtain ⟨wx1, hwx1⟩ : ∃ y, y = wc := ⟨_, rfl⟩
  subst hwx1
  obtain ⟨b1, d1, rfl, s11, bb1⟩ := hcut
  have s01 := s00.mono bb1
  have s21 := s20.mono bb1
  have s31 := s30.mono bb1
  have s41 := s40.mono bb1
  have bw1 : Below w.heap.size w wx1 := bw0.trans (bb1.mono bw0.size)
  clear s00 s10 s20 s30 s40 bb1 bw0
  go_upto_if 81 with fail
  go_cut [2] from 80 to 88 (fun s wx => ∃ a' c', s = .slice a' l2 c' ∧ Rd wx a' C2 ∧ Below wx1.heap.size wx1 wx)
  case first =>
    cases a2 with
    | none =>
      go_wp2
      go_meet
      exact ⟨_, _, rfl, s21, Below.refl _ _⟩
    | some x =>
      go_wp2_with (first | (at_make; refine wpList_make_full _ rfl (.tmp 83) (.tmp 83) 32 rfl wx1.heap.size 3 i3 _ 1 Try.underlying32 hi3 hz30 hz31 _ _ _ _ l2 rfl rfl rfl rfl (by rw [hz32]; omega) (by unfold maxLen; omega) (Nat.le_refl _) ?_; intro wk own2 grow2; have g2 : Below wx1.heap.size wx1 wk := (Below.refl _ _).grown grow2 (Nat.le_refl _) (fun k h => by cases h); have hbk := own_block own2; clear own2 grow2) | (refine wpList_copy_splice rfl (.tmp 85) (.tmp 86) 32 32 rfl 3 Try.underlying32 size3 _ _ _ _ _ _ rfl rfl wx1.heap.size 0 _ 3 hbk C2 (by rw [k2.out]; exact (Nat.min_self _).symm) (src_of s21 g2 _) (by rw [k2.out, made_len _ rfl]; omega) v2.out wx1.heap.size wx1 g2 (Nat.le_refl _) ?_; intro wj hgj hbj))
      go_meet
      exact ⟨_, _, rfl, copied hgj.out (by rw [k2.out, made_len _ rfl]), hbj⟩
  case rest =>
  obtain ⟨wx2, hwx2⟩ : ∃ y, y = wc := ⟨_, rfl⟩
  subst hwx2
  obtain ⟨b2, d2, rfl, s22, bb2⟩ := hcut
  have s02 := s01.mono bb2
  have s12 := s11.mono bb2
  have s32 := s31.mono bb2
  have s42 := s41.mono bb2
  have bw2 : Below w.heap.size w wx2 := bw1.trans (bb2.mono bw1.size)
  clear s01 s11 s21 s31 s41 bb2 bw1
  go_upto_if 90 with fail
  go_cut [3] from 89 to 97 (fun s wx => ∃ a' c', s = .slice a' l3 c' ∧ Rd wx a' C3 ∧ Below wx2.heap.size wx2 wx)
  case first =>
    cases a3 with
    | none =>
      go_wp2
      go_meet
      exact ⟨_, _, rfl, s32, Below.refl _ _⟩
    | some x =>
      go_wp2_with (first | (at_make; refine wpList_make_full _ rfl (.tmp 92) (.tmp 92) 34 rfl wx2.heap.size 36 i36 _ 1 Try.underlying34 hi36 hz360 hz361 _ _ _ _ l3 rfl rfl rfl rfl (by rw [hz362]; omega) (by unfold maxLen; omega) (Nat.le_refl _) ?_; intro wk own2 grow2; have g2 : Below wx2.heap.size wx2 wk := (Below.refl _ _).grown grow2 (Nat.le_refl _) (fun k h => by cases h); have hbk := own_block own2; clear own2 grow2) | (refine wpList_copy_splice rfl (.tmp 94) (.tmp 95) 34 34 rfl 36 Try.underlying34 size36 _ _ _ _ _ _ rfl rfl wx2.heap.size 0 _ 36 hbk C3 (by rw [k3.out]; exact (Nat.min_self _).symm) (src_of s32 g2 _) (by rw [k3.out, made_len _ rfl]; omega) v3.out wx2.heap.size wx2 g2 (Nat.le_refl _) ?_; intro wj hgj hbj))
      go_meet
      exact ⟨_, _, rfl, copied hgj.out (by rw [k3.out, made_len _ rfl]), hbj⟩
  case rest =>
  obtain ⟨wx3, hwx3⟩ : ∃ y, y = wc := ⟨_, rfl⟩
  subst hwx3
  obtain ⟨b3, d3, rfl, s33, bb3⟩ := hcut
  have s03 := s02.mono bb3
  have s13 := s12.mono bb3
  have s23 := s22.mono bb3
  have s43 := s42.mono bb3
  have bw3 : Below w.heap.size w wx3 := bw2.trans (bb3.mono bw2.size)
  clear s02 s12 s22 s32 s42 bb3 bw2
  go_upto_if 99 with fail
  go_cut [4] from 98 to 106 (fun s wx => ∃ a' c', s = .slice a' l4 c' ∧ Rd wx a' C4 ∧ Below wx3.heap.size wx3 wx)
  case first =>
    cases a4 with
    | none =>
      go_wp2
      go_meet
      exact ⟨_, _, rfl, s43, Below.refl _ _⟩
    | some x =>
      go_wp2_with (first | (at_make; refine wpList_make_full _ rfl (.tmp 101) (.tmp 101) 34 rfl wx3.heap.size 36 i36 _ 1 Try.underlying34 hi36 hz360 hz361 _ _ _ _ l4 rfl rfl rfl rfl (by rw [hz362]; omega) (by unfold maxLen; omega) (Nat.le_refl _) ?_; intro wk own2 grow2; have g2 : Below wx3.heap.size wx3 wk := (Below.refl _ _).grown grow2 (Nat.le_refl _) (fun k h => by cases h); have hbk := own_block own2; clear own2 grow2) | (refine wpList_copy_splice rfl (.tmp 103) (.tmp 104) 34 34 rfl 36 Try.underlying34 size36 _ _ _ _ _ _ rfl rfl wx3.heap.size 0 _ 36 hbk C4 (by rw [k4.out]; exact (Nat.min_self _).symm) (src_of s43 g2 _) (by rw [k4.out, made_len _ rfl]; omega) v4.out wx3.heap.size wx3 g2 (Nat.le_refl _) ?_; intro wj hgj hbj))
      go_meet
      exact ⟨_, _, rfl, copied hgj.out (by rw [k4.out, made_len _ rfl]), hbj⟩
  case rest =>
  obtain ⟨wx4, hwx4⟩ : ∃ y, y = wc := ⟨_, rfl⟩
  subst hwx4
  obtain ⟨b4, d4, rfl, s44, bb4⟩ := hcut
  have s04 := s03.mono bb4
  have s14 := s13.mono bb4
  have s24 := s23.mono bb4
  have s34 := s33.mono bb4
  have bw4 : Below w.heap.size w wx4 := bw3.trans (bb4.mono bw3.size)
  clear s03 s13 s23 s33 s43 bb4 bw3
  have R0 := s04
  have R1 := s14
  have R2 := s24
  have R3 := s34
  have R4 := s44
  have bwe := bw4
  clear s04 s14 s24 s34 s44 bw4 v0 v1 v2 v3 v4 hq32 hq33 hq34
  rw [HC3.out] at R3
  rw [HC4.out] at R4
  obtain ⟨we, hwe⟩ : ∃ y, y = wx4 := ⟨_, rfl⟩
  subst hwe
  go_wp2
  go_loop [16, 17] (fun z i => ∃ k q : Nat, k ≤ l1 ∧ q ≤ 262144 ∧ i = .int .i64 k ∧ z = .int .i64 q) (fun _ i => l1 - (intOf i).toNat)
  case atStart => exact ⟨0, 0, Nat.zero_le _, Nat.zero_le _, rfl, rfl⟩
  case round =>
    obtain ⟨k, q, hk, hq, rfl, rfl⟩ := hrel
    by_cases hlt : k < l1
    · obtain ⟨s, hs⟩ := getL ss k (by rw [n1.out]; exact hlt)
      have R1' := R1
      rw [HC1.out] at R1'
      rcases R1' with h | ⟨b, o, hb1, hc⟩
      · exact absurd h (map_ne ss _ k (by rw [n1.out]; exact hlt))
      subst hb1
      have cc := hc k (.string s) (by simp [hs])
      have hsz : s.size ≤ 1048576 := HS.out s (List.mem_of_getElem? hs)
      clear hc hs
      by_cases z2 : q + s.size ≤ 262144
      · go_wp2
        go_round
        case rel => exact ⟨k + 1, q + s.size, by omega, z2, by go_num, by go_num⟩
        case measure => simp [intOf]; omega
      · go_wp2
        go_ret
        exact ⟨rfl, bwe⟩
    · clear HS
      by_cases hl1 : l1 = l0
      · by_cases hl2 : l2 = l0
        · subst hl1
          subst hl2
          have e1 : ss.length = rs.length := by rw [n1.out, n0.out]
          have e2 : xs.length = rs.length := by rw [n2.out, n0.out]
          obtain ⟨L, hL⟩ : ∃ L, L = join3 rs ss xs := ⟨_, rfl⟩
          rw [HC0.out, ← rul_join e1 e2, ← hL] at R0
          rw [HC1.out, ← fld_join e1 e2, ← hL] at R1
          rw [HC2.out, ← idx_join e1 e2, ← hL] at R2
          have HL : Hid (L.length = l2) := by show L.length = l2; rw [hL, join3_len e1 e2]; exact n0.out
          clear hL e1 e2
          go_wp2_with (at_make; refine wpList_make_own _ rfl _ _ 34 rfl we.heap.size 36 i36 _ 1 Try.underlying34 hi36 hz360 hz361 _ _ _ (l3 + l4) rfl rfl (by omega) (by rw [hz362]; omega) (by unfold maxLen; omega) (Nat.le_refl _) ?_; intro w3 own3 grow3)
          have q3 : Below we.heap.size we w3 := (Below.refl _ _).grown grow3 (Nat.le_refl _) (fun k h => by cases h)
          clear grow3
          go_loopw [18, 19] (fun v i wr => ∃ k : Nat, k ≤ l3 ∧ i = .int .i64 k ∧ v = .slice (some ⟨we.heap.size, 0, none⟩) k (l3 + l4) ∧ wr.ownsRow we.heap.size 36 1 (.slice (some ⟨we.heap.size, 0, none⟩) k (l3 + l4)) k ((za.take k).map (Value.int .u32)) ∧ Below we.heap.size we wr) (fun _ i _ => l3 - (intOf i).toNat)
          case atStart => exact ⟨0, Nat.zero_le _, rfl, rfl, own3, q3⟩
          case round =>
            obtain ⟨k, hk, rfl, rfl, hown, hB⟩ := hrel
            clear own3 q3
            by_cases hlt : k < l3
            · obtain ⟨z, hz⟩ := getL za k (by rw [n3.out]; exact hlt)
              obtain ⟨b, o, hb3, hc⟩ := (R3.mono hB).spot k (.int .u32 z) (by simp [hz])
              subst hb3
              have hnx : Hid (za.take (k + 1) = za.take k ++ [z]) := take_snocL za k z hz
              clear hz
              go_wp2_with (at_builtin; refine wpList_append_fits _ rfl _ _ 34 rfl we.heap.size 36 i36 1 Try.underlying34 hi36 hz361 _ _ _ _ rfl (hown.alloc _) ⟨wr.heap.size, 0, none⟩ 1 1 [.int .u32 z] rfl rfl (cell_one_new _ _ _) (by simp [Value.oneCell']) (by omega) ?_; intro w5 own5 grow5)
              go_roundw
              case rel =>
                refine ⟨k + 1, by omega, by go_num, rfl, ?_, (hB.alloc hB.size _).grown grow5 (by have := hB.size; simp; omega) (fun k h => by cases h; exact Nat.le_refl _)⟩
                rw [hnx.out, List.map_append]
                exact own5
              case measure => simp [intOf]; omega
            · have hek : l3 = k := by omega
              subst hek
              rw [List.take_of_length_le (by rw [n3.out]; omega)] at hown
              go_wp2
              go_loopw [18, 20] (fun v i wr => ∃ k : Nat, k ≤ l4 ∧ i = .int .i64 k ∧ v = .slice (some ⟨we.heap.size, 0, none⟩) (l3 + k) (l3 + l4) ∧ wr.ownsRow we.heap.size 36 1 (.slice (some ⟨we.heap.size, 0, none⟩) (l3 + k) (l3 + l4)) (l3 + k) ((za ++ zb.take k).map (Value.int .u32)) ∧ Below we.heap.size we wr) (fun _ i _ => l4 - (intOf i).toNat)
              case atStart => exact ⟨0, Nat.zero_le _, rfl, rfl, by simpa using hown, hB⟩
              case round =>
                obtain ⟨k, hk, rfl, rfl, hown, hB⟩ := hrel
                by_cases hlt : k < l4
                · obtain ⟨z, hz⟩ := getL zb k (by rw [n4.out]; exact hlt)
                  obtain ⟨b, o, hb4, hc⟩ := (R4.mono hB).spot k (.int .u32 z) (by simp [hz])
                  subst hb4
                  have hnx : Hid (za ++ zb.take (k + 1) = (za ++ zb.take k) ++ [z]) := by show _ = _; rw [take_snocL zb k z hz, List.append_assoc]
                  clear hz
                  go_wp2_with (at_builtin; refine wpList_append_fits _ rfl _ _ 34 rfl we.heap.size 36 i36 1 Try.underlying34 hi36 hz361 _ _ _ _ rfl (hown.alloc _) ⟨wr.heap.size, 0, none⟩ 1 1 [.int .u32 z] rfl rfl (cell_one_new _ _ _) (by simp [Value.oneCell']) (by omega) ?_; intro w5 own5 grow5)
                  go_roundw
                  case rel =>
                    refine ⟨k + 1, by omega, by go_num, rfl, ?_, (hB.alloc hB.size _).grown grow5 (by have := hB.size; simp; omega) (fun k h => by cases h; exact Nat.le_refl _)⟩
                    rw [hnx.out, List.map_append]
                    exact own5
                  case measure => simp [intOf]; omega
                · have hek : l4 = k := by omega
                  subst hek
                  rw [List.take_of_length_le (by rw [n4.out]; omega)] at hown
                  have Rab := Rd.of_own hown
                  have nab : Hid ((za ++ zb).length = l3 + l4) := by show _ = _; rw [List.length_append, n3.out, n4.out]
                  obtain ⟨wf, hwf⟩ : ∃ y, y = wr := ⟨_, rfl⟩
                  subst hwf
                  obtain ⟨F, hF⟩ : ∃ F, F = fin L (za ++ zb) := ⟨_, rfl⟩
                  obtain ⟨Fa, hFa⟩ : ∃ F, F = fin [] za := ⟨_, rfl⟩
                  obtain ⟨Fb, hFb⟩ : ∃ F, F = fin [] zb := ⟨_, rfl⟩
                  have HF : Hid (F = fin L (za ++ zb)) := hF
                  have HFa : Hid (Fa = fin [] za) := hFa
                  have HFb : Hid (Fb = fin [] zb) := hFb
                  obtain ⟨m, hm⟩ : ∃ m, F.length = m := ⟨_, rfl⟩
                  obtain ⟨ma, hma⟩ : ∃ m, Fa.length = m := ⟨_, rfl⟩
                  obtain ⟨mb, hmb⟩ : ∃ m, Fb.length = m := ⟨_, rfl⟩
                  have Hm : Hid (F.length = m) := hm
                  have Hma : Hid (Fa.length = ma) := hma
                  have Hmb : Hid (Fb.length = mb) := hmb
                  have fa : Hid (ma = if asc za then 0 else 1) := by show ma = _; rw [← hma, hFa]; unfold fin; split <;> simp
                  have fb : Hid (mb = if asc zb then 0 else 1) := by show mb = _; rw [← hmb, hFb]; unfold fin; split <;> simp
                  have R0' := R0.mono hB
                  have R1' := R1.mono hB
                  have R2' := R2.mono hB
                  have R3' := R3.mono hB
                  have R4' := R4.mono hB
                  have bwf : Below w.heap.size w wf := bwe.trans (hB.mono bwe.size)
                  clear hF hFa hFb hm hma hmb R0 R1 R2 R3 R4 hown hB bwe
                  go_wp2_with fail
                  refine (door15v b0 b1 b2 (some ⟨we.heap.size, 0, none⟩) l2 d0 d1 d2 (l3 + l4) (l3 + l4) m L F (za ++ zb) _ HF Hm R0' R1' R2' Rab HL nab (by omega) (by omega)).mono ?_
                  rintro e w1 ⟨g1, g2, g3, rfl, p1, p2, p3, q1⟩
                  go_wp2_with fail
                  refine (door15v none none none b3 0 0 0 0 l3 d3 ma [] Fa za _ HFa Hma (.inl rfl) (.inl rfl) (.inl rfl) (R3'.mono q1) rfl n3 (by omega) (by omega)).mono ?_
                  rintro e w2 ⟨g4, g5, g6, rfl, p4, p5, p6, q2⟩
                  have q12 : Below wf.heap.size wf w2 := q1.trans (q2.mono q1.size)
                  go_wp2_with fail
                  refine (door15v none none none b4 0 0 0 0 l4 d4 mb [] Fb zb _ HFb Hmb (.inl rfl) (.inl rfl) (.inl rfl) (R4'.mono q12) rfl n4 (by omega) (by omega)).mono ?_
                  rintro e w5 ⟨g7, g8, g9, rfl, p7, p8, p9, q5⟩
                  have q15 : Below w1.heap.size w1 w5 := q2.trans (q5.mono q2.size)
                  have qf5 : Below wf.heap.size wf w5 := q1.trans (q15.mono q1.size)
                  have bw5 : Below w.heap.size w w5 := bwf.trans (qf5.mono bwf.size)
                  have R0f := R0'.mono qf5
                  have R1f := R1'.mono qf5
                  have R2f := R2'.mono qf5
                  have R3f := R3'.mono qf5
                  have R4f := R4'.mono qf5
                  have p1f := p1.mono q15
                  have p2f := p2.mono q15
                  have p3f := p3.mono q15
                  have p4f := p4.mono q5
                  have p5f := p5.mono q5
                  have p6f := p6.mono q5
                  clear R0' R1' R2' R3' R4' p1 p2 p3 p4 p5 p6 q1 q2 q12 q15 qf5 q5 Rab bwf
                  go_wp2_with fail
                  refine (one16v g4 g5 g6 ma Fa za _ HFa Hma p4f p5f p6f).mono ?_
                  rintro e w6 ⟨rfl, rfl⟩
                  go_wp2_with fail
                  refine (one16v g7 g8 g9 mb Fb zb _ HFb Hmb p7 p8 p9).mono ?_
                  rintro e w6 ⟨rfl, rfl⟩
                  clear p4f p5f p6f p7 p8 p9
                  go_upto_region 50 with fail
                  go_cut [30] from 187 to 206 (fun s wx => s = .bool (!asc za || !asc zb) ∧ w5 = wx)
                  case first =>
                    have xa := fa.out
                    have xb := fb.out
                    cases ha : asc za <;> cases hb : asc zb <;> rw [ha] at xa <;> rw [hb] at xb <;> simp only [if_true, if_false, Bool.false_eq_true] at xa xb <;> subst xa <;> subst xb <;> (go_wp2; go_meet; exact ⟨by simp [ha, hb], rfl⟩)
                  case rest =>
                  obtain ⟨rfl, rfl⟩ := hcut
                  go_upto_region 51 with fail
                  go_cut [226] from 207 to 226 (fun s wx => s = .bool (cross za zb) ∧ ∃ j, wx = w5.drewN j)
                  case first =>
                    by_cases pa : 0 < l3
                    · by_cases pb : 0 < l4
                      · obtain ⟨x, hx⟩ := getL za (l3 - 1) (by rw [n3.out]; omega)
                        obtain ⟨y, hy⟩ := getL zb 0 (by rw [n4.out]; omega)
                        obtain ⟨y3, o3, hb3, c3⟩ := R3f.spot (l3 - 1) (.int .u32 x) (by simp [hx])
                        obtain ⟨y4, o4, hb4, c4⟩ := R4f.spot 0 (.int .u32 y) (by simp [hy])
                        subst hb3
                        subst hb4
                        have hcr : Hid (cross za zb = !decide (x < y)) := by
                          show cross za zb = _
                          unfold cross
                          have e1 : za.isEmpty = false := by cases za with | nil => simp at hx | cons => rfl
                          have e2 : zb.isEmpty = false := by cases zb with | nil => simp at hy | cons => rfl
                          rw [e1, e2, n3.out]
                          simp [List.getD, hx, hy]
                        have j1 : (1 : Int) ≤ (l3 : Int) := by omega
                        have j2 : (l3 : Int) - 1 < (l3 : Int) := by omega
                        have j3 : ((l3 : Int) - 1).toNat = l3 - 1 := by omega
                        have j4 : IntKind.i64.wrap ((l3 : Int) - 1) = (l3 : Int) - 1 := IntWalk.i64_in _ ⟨by omega, by omega⟩
                        have j5 : (0 : Int) < (l3 : Int) := by omega
                        have j6 : (0 : Int) < (l4 : Int) := by omega
                        have j7 : (0 : Int) ≤ (l3 : Int) - 1 := by omega
                        rw [Nat.add_zero] at c4
                        clear hx hy
                        go_quiet (fail)
                        go_wp2
                        go_meet
                        exact ⟨by rw [hcr.out]; exact congrArg Value.bool (ge_eq x y), _, rfl⟩
                      · have hb0 : l4 = 0 := by omega
                        have hcr : Hid (cross za zb = false) := by
                          have e2 : zb = [] := List.eq_nil_of_length_eq_zero (by rw [n4.out]; exact hb0)
                          show cross za zb = false
                          rw [e2]; simp [cross]
                        have j5 : (0 : Int) < (l3 : Int) := by omega
                        have j6 : decide ((0 : Int) < (l4 : Int)) = false := by simp; omega
                        clear hb0
                        go_quiet (fail)
                        go_wp2
                        go_meet
                        exact ⟨by rw [hcr.out], _, rfl⟩
                    · have ha0 : l3 = 0 := by omega
                      have hcr : Hid (cross za zb = false) := by
                        have e2 : za = [] := List.eq_nil_of_length_eq_zero (by rw [n3.out]; exact ha0)
                        show cross za zb = false
                        rw [e2]; simp [cross]
                      have j6 : decide ((0 : Int) < (l3 : Int)) = false := by simp; omega
                      clear ha0
                      go_quiet (fail)
                      go_wp2
                      go_meet
                      exact ⟨by rw [hcr.out], _, rfl⟩
                  case rest =>
                  obtain ⟨rfl, j0, rfl⟩ := hcut
                  clear R3f R4f
                  obtain ⟨bad, hbad⟩ : ∃ b, b = !asc (za ++ zb) := ⟨_, rfl⟩
                  have HB : Hid (bad = ((!asc za || !asc zb) || cross za zb)) := by show bad = _; rw [hbad]; exact bad_eq za zb
                  have hbF : Hid ((bad = true → F = L ++ [(3, ⟨#[]⟩, -1)]) ∧ (bad = false → F = L)) := by
                    refine ⟨fun h => ?_, fun h => ?_⟩
                    · rw [HF.out, fin_false (by rw [hbad] at h; simpa using h)]
                    · rw [HF.out, fin_true (by rw [hbad] at h; simpa using h)]
                  clear hbad
                  go_upto_if 226 with fail
                  go_cut [30] from 226 to 226 (fun s wx => s = .bool bad ∧ w5.drewN j0 = wx)
                  case first =>
                    have hb := HB.out
                    cases hc : cross za zb with
                    | true =>
                      rw [hc] at hb
                      simp only [Bool.or_true] at hb
                      subst hb
                      go_wp2
                      go_meet
                      exact ⟨rfl, rfl⟩
                    | false =>
                      rw [hc] at hb
                      simp only [Bool.or_false] at hb
                      have HB' : Hid (bad = (!asc za || !asc zb)) := hb
                      clear hb
                      go_wp2
                      go_meet
                      exact ⟨by rw [HB'.out], rfl⟩
                  case rest =>
                  obtain ⟨rfl, rfl⟩ := hcut
                  clear HB
                  have hFk : Hid (∀ k t, k < l2 → L[k]? = some t → F[k]? = some t) := by
                    intro k t hk ht
                    cases bad with
                    | true => rw [hbF.out.1 rfl, List.getElem?_append_left (by rw [HL.out]; exact hk)]; exact ht
                    | false => rw [hbF.out.2 rfl]; exact ht
                  have hml : Hid (m = l2 + (if bad then 1 else 0)) := by
                    show m = _
                    rw [← Hm.out]
                    cases bad with
                    | true => rw [hbF.out.1 rfl, List.length_append, HL.out]; rfl
                    | false => rw [hbF.out.2 rfl, HL.out]; rfl
                  have hlast : Hid (bad = true → (rul F)[l2]? = some (.int .i64 3) ∧ (fld F)[l2]? = some (.string ⟨#[]⟩) ∧ (idx F)[l2]? = some (.int .i64 (-1))) := by
                    intro h
                    have hl : F[l2]? = some (3, ⟨#[]⟩, -1) := by
                      rw [hbF.out.1 h, List.getElem?_append_right (by rw [HL.out]; exact Nat.le_refl _), HL.out]; simp
                    refine ⟨?_, ?_, ?_⟩
                    · unfold rul; rw [List.getElem?_map, hl]; rfl
                    · unfold fld; rw [List.getElem?_map, hl]; rfl
                    · unfold idx; rw [List.getElem?_map, hl]; rfl
                  clear hbF
                  cases bad
                  all_goals
                    have hm0 := hml.out.symm
                    simp only [if_true, if_false, Bool.false_eq_true, Nat.add_zero] at hm0
                    subst hm0
                    clear hml
                    go_wp2
                    go_loopw [32] (fun i wr => ∃ k : Nat, k ≤ l2 ∧ i = .int .i64 k ∧ ∃ j, wr = w5.drewN j) (fun i _ => l2 - (intOf i).toNat)
                    case atStart => exact ⟨0, Nat.zero_le _, rfl, _, rfl⟩
                    case round =>
                      obtain ⟨k, hk, rfl, j, rfl⟩ := hrel
                      by_cases hlt : k < l2
                      · obtain ⟨t, ht⟩ := getL L k (by rw [HL.out]; exact hlt)
                        have hFk' := hFk.out k t hlt ht
                        have c1 := p1f.at k (.int .i64 t.1) (by simp [rul, hFk'])
                        have c2 := p2f.at k (.string t.2.1) (by simp [fld, hFk'])
                        have c3 := p3f.at k (.int .i64 t.2.2) (by simp [idx, hFk'])
                        obtain ⟨y0, o0, hb0, c4⟩ := R0f.spot k (.int .i64 t.1) (by simp [rul, ht])
                        obtain ⟨y1, o1, hb1, c5⟩ := R1f.spot k (.string t.2.1) (by simp [fld, ht])
                        obtain ⟨y2, o2, hb2, c6⟩ := R2f.spot k (.int .i64 t.2.2) (by simp [idx, ht])
                        subst hb0
                        subst hb1
                        subst hb2
                        obtain ⟨tr, tf, tx⟩ := t
                        simp only at c1 c2 c3 c4 c5 c6
                        have i1 : (k : Int) < (l2 : Int) := by omega
                        have i2 : (k : Int) < (l2 : Int) + 1 := by omega
                        clear hFk' ht
                        go_wp2
                        go_quiet (fail)
                        go_wp2
                        go_roundw
                        case rel => exact ⟨k + 1, by omega, by go_num, _, rfl⟩
                        case measure => simp [intOf]; omega
                      · clear R0f R1f R2f
                        try
                          have hl := hlast.out (by trivial)
                          have c1 := p1f.at l2 _ hl.1
                          have c2 := p2f.at l2 _ hl.2.1
                          have c3 := p3f.at l2 _ hl.2.2
                          clear hl
                        clear hlast hFk
                        go_wp2
                        go_ret
                        exact ⟨rfl, bw5.trans ((Same.drewN w5 j).2.mono bw5.size)⟩
        · have g : ((l2 : Int) != (l0 : Int)) = true := by simp; omega
          go_wp2
          go_ret
          exact ⟨rfl, bwe⟩
      · have g : ((l1 : Int) != (l0 : Int)) = true := by simp; omega
        go_wp2
        go_ret
        exact ⟨rfl, bwe⟩
end Go.Proofs.Qxb6608961a.chk
