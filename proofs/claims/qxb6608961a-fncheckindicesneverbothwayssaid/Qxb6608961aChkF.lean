import Derived.Test.Qxb6608961aChkF0
import Derived.Deep.DeepCutAuto
namespace Go.Proofs.Qxb6608961a.chk
open Go.RowKit
set_option linter.unusedVariables false
attribute [local go_sem ↓] Go.wp_at_zero Go.wp_at_succ

set_option maxHeartbeats 4000000 in
set_option maxRecDepth 100000 in
theorem core6 (a0 a1 a2 a3 : Option Addr) (l0 c0 l1 c1 l2 c2 l3 c3 : Nat) (rs : List Int) (ss : List ByteArray) (xs zs : List Int) (w : World) (r0 : Rd w a0 (rs.map (Value.int .i64))) (r1 : Rd w a1 (ss.map Value.string)) (r2 : Rd w a2 (xs.map (Value.int .i64))) (r3 : Rd w a3 (zs.map (Value.int .u32)))
    (n0 : Hid (rs.length = l0)) (n1 : Hid (ss.length = l1)) (n2 : Hid (xs.length = l2)) (n3 : Hid (zs.length = l3)) (hz : Hid (∀ s ∈ ss, s.size ≤ 9223372036854775807)) (t0 : l0 ≤ 16384) (t1 : l1 ≤ 16384) (t2 : l2 ≤ 16384) (t3 : l3 ≤ 32768) :
    Calls Try.prog 6 #[.slice a0 l0 c0, .slice a1 l1 c1, .slice a2 l2 c2, .slice a3 l3 c3] w fun e w' => e = .returned (.bool true) ∧ Below w.heap.size w w' := by
  obtain ⟨i3, hi3, hz30, hz31, hz32⟩ := info_parts info3
  obtain ⟨i9, hi9, hz90, hz91, hz92⟩ := info_parts info9
  obtain ⟨i36, hi36, hz360, hz361, hz362⟩ := info_parts info36
  have hq32 : ∀ (w : World) (a : Option Addr) (n c : Nat), (binOp .neq 32 (.slice a n c) (.slice none 0 0)).run Try.prog w = .ok (.bool (!a.isNone)) w := fun w a n c => run_neq_slice_nil_any w _ _ a n c 0 0 Try.underlying32
  have hq33 : ∀ (w : World) (a : Option Addr) (n c : Nat), (binOp .neq 33 (.slice a n c) (.slice none 0 0)).run Try.prog w = .ok (.bool (!a.isNone)) w := fun w a n c => run_neq_slice_nil_any w _ _ a n c 0 0 Try.underlying33
  have hq34 : ∀ (w : World) (a : Option Addr) (n c : Nat), (binOp .neq 34 (.slice a n c) (.slice none 0 0)).run Try.prog w = .ok (.bool (!a.isNone)) w := fun w a n c => run_neq_slice_nil_any w _ _ a n c 0 0 Try.underlying34
  obtain ⟨C0, hC0⟩ : ∃ C, C = rs.map (Value.int .i64) := ⟨_, rfl⟩
  obtain ⟨C1, hC1⟩ : ∃ C, C = ss.map Value.string := ⟨_, rfl⟩
  obtain ⟨C2, hC2⟩ : ∃ C, C = xs.map (Value.int .i64) := ⟨_, rfl⟩
  obtain ⟨C3, hC3⟩ : ∃ C, C = zs.map (Value.int .u32) := ⟨_, rfl⟩
  have k0 : Hid (C0.length = l0) := by show C0.length = l0; rw [hC0, List.length_map]; exact n0
  have k1 : Hid (C1.length = l1) := by show C1.length = l1; rw [hC1, List.length_map]; exact n1
  have k2 : Hid (C2.length = l2) := by show C2.length = l2; rw [hC2, List.length_map]; exact n2
  have k3 : Hid (C3.length = l3) := by show C3.length = l3; rw [hC3, List.length_map]; exact n3
  have v0 : Hid (∀ u ∈ C0, u.oneCell' = true) := by rw [hC0]; exact one_ints _ _
  have v1 : Hid (∀ u ∈ C1, u.oneCell' = true) := by rw [hC1]; exact one_strs _
  have v2 : Hid (∀ u ∈ C2, u.oneCell' = true) := by rw [hC2]; exact one_ints _ _
  have v3 : Hid (∀ u ∈ C3, u.oneCell' = true) := by rw [hC3]; exact one_ints _ _
  have x1 := r1
  rw [← hC0] at r0
  rw [← hC1] at r1
  rw [← hC2] at r2
  rw [← hC3] at r3
  have HC0 : Hid (C0 = rs.map (Value.int .i64)) := hC0
  have HC1 : Hid (C1 = ss.map Value.string) := hC1
  have HC2 : Hid (C2 = xs.map (Value.int .i64)) := hC2
  have HC3 : Hid (C3 = zs.map (Value.int .u32)) := hC3
  clear hC0 hC1 hC2 hC3
  go_enter Try.func6, Try.ntmps6
  go_wp2_with fail
  refine (bytes17 _ _ _ _ _ _ _ _ _ _ _ _ ss _ x1 n1 hz (by omega) (by omega) (by omega) (by omega)).mono ?_
  rintro e w' ⟨rfl | ⟨rfl, hsz⟩, rfl⟩
  · go_wp2
    go_ret
    exact ⟨rfl, Below.refl _ _⟩
  have HS : Hid (∀ s ∈ ss, s.size ≤ 1048576) := hsz
  clear hsz hz x1
  go_upto_if 52 with fail
  go_cut [0] from 29 to 59 (fun s wx => ∃ a' c', s = .slice a' l0 c' ∧ Rd wx a' C0 ∧ Below w.heap.size w wx)
  case first =>
    cases a0 with
    | none =>
      go_wp2
      go_meet
      exact ⟨_, _, rfl, r0, Below.refl _ _⟩
    | some x =>
      go_wp2_with (first | (at_make; refine wpList_make_full _ rfl (.tmp 54) (.tmp 54) 32 rfl w.heap.size 3 i3 _ 1 Try.underlying32 hi3 hz30 hz31 _ _ _ _ l0 rfl rfl rfl rfl (by rw [hz32]; omega) (by unfold maxLen; omega) (Nat.le_refl _) ?_; intro wk own2 grow2; have g2 : Below w.heap.size w wk := (Below.refl _ _).grown grow2 (Nat.le_refl _) (fun k h => by cases h); have hbk := own_block own2; clear own2 grow2) | (refine wpList_copy_splice rfl (.tmp 56) (.tmp 57) 32 32 rfl 3 Try.underlying32 size3 _ _ _ _ _ _ rfl rfl w.heap.size 0 _ 3 hbk C0 (by rw [k0.out]; exact (Nat.min_self _).symm) (src_of r0 g2 _) (by rw [k0.out, made_len _ rfl]; omega) v0.out w.heap.size w g2 (Nat.le_refl _) ?_; intro wj hgj hbj))
      go_meet
      exact ⟨_, _, rfl, copied hgj.out (by rw [k0.out, made_len _ rfl]), hbj⟩
  case rest =>
  obtain ⟨wa, hwa⟩ : ∃ wa, wa = wc := ⟨_, rfl⟩
  subst hwa
  obtain ⟨b0, d0, rfl, r0', ba⟩ := hcut
  have r1a := r1.mono ba
  have r2a := r2.mono ba
  have r3a := r3.mono ba
  clear r0 r1 r2 r3
  go_upto_if 61 with fail
  go_cut [1] from 60 to 68 (fun s wx => ∃ a' c', s = .slice a' l1 c' ∧ Rd wx a' C1 ∧ Below wa.heap.size wa wx)
  case first =>
    cases a1 with
    | none =>
      go_wp2
      go_meet
      exact ⟨_, _, rfl, r1a, Below.refl _ _⟩
    | some x =>
      go_wp2_with (first | (at_make; refine wpList_make_full _ rfl (.tmp 63) (.tmp 63) 33 rfl wa.heap.size 9 i9 _ 1 Try.underlying33 hi9 hz90 hz91 _ _ _ _ l1 rfl rfl rfl rfl (by rw [hz92]; omega) (by unfold maxLen; omega) (Nat.le_refl _) ?_; intro wk own2 grow2; have g2 : Below wa.heap.size wa wk := (Below.refl _ _).grown grow2 (Nat.le_refl _) (fun k h => by cases h); have hbk := own_block own2; clear own2 grow2) | (refine wpList_copy_splice rfl (.tmp 65) (.tmp 66) 33 33 rfl 9 Try.underlying33 size9 _ _ _ _ _ _ rfl rfl wa.heap.size 0 _ 9 hbk C1 (by rw [k1.out]; exact (Nat.min_self _).symm) (src_of r1a g2 _) (by rw [k1.out, made_len _ rfl]; omega) v1.out wa.heap.size wa g2 (Nat.le_refl _) ?_; intro wj hgj hbj))
      go_meet
      exact ⟨_, _, rfl, copied hgj.out (by rw [k1.out, made_len _ rfl]), hbj⟩
  case rest =>
  obtain ⟨wb, hwb⟩ : ∃ wb, wb = wc := ⟨_, rfl⟩
  subst hwb
  obtain ⟨b1, d1, rfl, r1', bb⟩ := hcut
  have r0b := r0'.mono bb
  have r2b := r2a.mono bb
  have r3b := r3a.mono bb
  have bwb : Below w.heap.size w wb := ba.trans (bb.mono ba.size)
  clear r0' r1a r2a r3a ba bb
  go_upto_if 70 with fail
  go_cut [2] from 69 to 77 (fun s wx => ∃ a' c', s = .slice a' l2 c' ∧ Rd wx a' C2 ∧ Below wb.heap.size wb wx)
  case first =>
    cases a2 with
    | none =>
      go_wp2
      go_meet
      exact ⟨_, _, rfl, r2b, Below.refl _ _⟩
    | some x =>
      go_wp2_with (first | (at_make; refine wpList_make_full _ rfl (.tmp 72) (.tmp 72) 32 rfl wb.heap.size 3 i3 _ 1 Try.underlying32 hi3 hz30 hz31 _ _ _ _ l2 rfl rfl rfl rfl (by rw [hz32]; omega) (by unfold maxLen; omega) (Nat.le_refl _) ?_; intro wk own2 grow2; have g2 : Below wb.heap.size wb wk := (Below.refl _ _).grown grow2 (Nat.le_refl _) (fun k h => by cases h); have hbk := own_block own2; clear own2 grow2) | (refine wpList_copy_splice rfl (.tmp 74) (.tmp 75) 32 32 rfl 3 Try.underlying32 size3 _ _ _ _ _ _ rfl rfl wb.heap.size 0 _ 3 hbk C2 (by rw [k2.out]; exact (Nat.min_self _).symm) (src_of r2b g2 _) (by rw [k2.out, made_len _ rfl]; omega) v2.out wb.heap.size wb g2 (Nat.le_refl _) ?_; intro wj hgj hbj))
      go_meet
      exact ⟨_, _, rfl, copied hgj.out (by rw [k2.out, made_len _ rfl]), hbj⟩
  case rest =>
  obtain ⟨wd, hwd⟩ : ∃ wd, wd = wc := ⟨_, rfl⟩
  subst hwd
  obtain ⟨b2, d2, rfl, r2', bd⟩ := hcut
  have r0d := r0b.mono bd
  have r1d := r1'.mono bd
  have r3d := r3b.mono bd
  have bwd : Below w.heap.size w wd := bwb.trans (bd.mono bwb.size)
  clear r0b r1' r2b r3b bwb bd
  go_upto_if 79 with fail
  go_cut [3] from 78 to 86 (fun s wx => ∃ a' c', s = .slice a' l3 c' ∧ Rd wx a' C3 ∧ Below wd.heap.size wd wx)
  case first =>
    cases a3 with
    | none =>
      go_wp2
      go_meet
      exact ⟨_, _, rfl, r3d, Below.refl _ _⟩
    | some x =>
      go_wp2_with (first | (at_make; refine wpList_make_full _ rfl (.tmp 81) (.tmp 81) 34 rfl wd.heap.size 36 i36 _ 1 Try.underlying34 hi36 hz360 hz361 _ _ _ _ l3 rfl rfl rfl rfl (by rw [hz362]; omega) (by unfold maxLen; omega) (Nat.le_refl _) ?_; intro wk own2 grow2; have g2 : Below wd.heap.size wd wk := (Below.refl _ _).grown grow2 (Nat.le_refl _) (fun k h => by cases h); have hbk := own_block own2; clear own2 grow2) | (refine wpList_copy_splice rfl (.tmp 83) (.tmp 84) 34 34 rfl 36 Try.underlying34 size36 _ _ _ _ _ _ rfl rfl wd.heap.size 0 _ 36 hbk C3 (by rw [k3.out]; exact (Nat.min_self _).symm) (src_of r3d g2 _) (by rw [k3.out, made_len _ rfl]; omega) v3.out wd.heap.size wd g2 (Nat.le_refl _) ?_; intro wj hgj hbj))
      go_meet
      exact ⟨_, _, rfl, copied hgj.out (by rw [k3.out, made_len _ rfl]), hbj⟩
  case rest =>
  obtain ⟨we, hwe⟩ : ∃ we, we = wc := ⟨_, rfl⟩
  subst hwe
  obtain ⟨b3, d3, rfl, R3, be⟩ := hcut
  have R0 := r0d.mono be
  have R1 := r1d.mono be
  have R2 := r2'.mono be
  have bwe : Below w.heap.size w we := bwd.trans (be.mono bwd.size)
  clear r0d r1d r2' r3d bwd be v0 v1 v2 v3 hq32 hq33 hq34
  go_wp2
  go_loop [13, 14] (fun z i => ∃ k q : Nat, k ≤ l1 ∧ q ≤ 262144 ∧ i = .int .i64 k ∧ z = .int .i64 q) (fun _ i => l1 - (intOf i).toNat)
  case atStart => exact ⟨0, 0, Nat.zero_le _, Nat.zero_le _, rfl, rfl⟩
  case round =>
    obtain ⟨k, q, hk, hq, rfl, rfl⟩ := hrel
    by_cases hlt : k < l1
    · obtain ⟨s, hs⟩ := getL ss k (by rw [n1.out]; exact hlt)
      have R1' := R1
      rw [HC1.out] at R1'
      rcases R1' with h | ⟨b, o, hb1, hc⟩
      · exact absurd h (map_ne ss _ k (by rw [n1.out]; exact hlt))
      subst hb1
      have cc := hc k (.string s) (by simp [hs])
      have hsz : s.size ≤ 1048576 := HS.out s (List.mem_of_getElem? hs)
      clear hc hs
      by_cases z2 : q + s.size ≤ 262144
      · go_wp2
        go_round
        case rel => exact ⟨k + 1, q + s.size, by omega, z2, by go_num, by go_num⟩
        case measure => simp [intOf]; omega
      · go_wp2
        go_ret
        exact ⟨rfl, bwe⟩
    · clear HS
      by_cases hl1 : l1 = l0
      · by_cases hl2 : l2 = l0
        · subst hl1
          subst hl2
          have e1 : ss.length = rs.length := by rw [n1.out, n0.out]
          have e2 : xs.length = rs.length := by rw [n2.out, n0.out]
          obtain ⟨L, hL⟩ : ∃ L, L = join3 rs ss xs := ⟨_, rfl⟩
          rw [HC0.out, ← rul_join e1 e2, ← hL] at R0
          rw [HC1.out, ← fld_join e1 e2, ← hL] at R1
          rw [HC2.out, ← idx_join e1 e2, ← hL] at R2
          rw [HC3.out] at R3
          have HL : Hid (L.length = l2) := by show L.length = l2; rw [hL, join3_len e1 e2]; exact n0.out
          clear hL e1 e2
          obtain ⟨F, hF⟩ : ∃ F, F = fin L zs := ⟨_, rfl⟩
          obtain ⟨F0, hF0⟩ : ∃ F, F = fin [] zs := ⟨_, rfl⟩
          obtain ⟨Fr, hFr⟩ : ∃ F, F = fin [] zs.reverse := ⟨_, rfl⟩
          have HF : Hid (F = fin L zs) := hF
          have HF0 : Hid (F0 = fin [] zs) := hF0
          have HFr : Hid (Fr = fin [] zs.reverse) := hFr
          have HA : Hid (F = L ++ F0) := by show F = _; rw [hF, hF0]; exact fin_app L zs
          obtain ⟨m, hm⟩ : ∃ m, F.length = m := ⟨_, rfl⟩
          obtain ⟨m0, hm0⟩ : ∃ m, F0.length = m := ⟨_, rfl⟩
          obtain ⟨mr, hmr⟩ : ∃ m, Fr.length = m := ⟨_, rfl⟩
          have Hm : Hid (F.length = m) := hm
          have Hm0 : Hid (F0.length = m0) := hm0
          have Hmr : Hid (Fr.length = mr) := hmr
          have f1 : m0 ≤ 1 := by rw [← hm0, hF0]; exact fin_len [] zs
          have f2 : mr ≤ 1 := by rw [← hmr, hFr]; exact fin_len [] zs.reverse
          have f3 : Hid (m = l2 + m0) := by show m = _; rw [← hm, HA.out, List.length_append, HL.out, hm0]
          have f4 : Hid (2 ≤ l3 → 1 ≤ m0 + mr) := by
            intro h
            cases ha : asc zs with
            | false => rw [← hm0, hF0, fin_false ha]; simp
            | true => rw [← hmr, hFr, fin_false (asc_rev zs (by rw [n3.out]; exact h) ha)]; simp
          have f5 : Hid (l3 ≤ 1 → m0 = 0) := by
            intro h
            rw [← hm0, hF0, fin_true (asc_short zs (by rw [n3.out]; exact h))]; rfl
          clear hF hF0 hFr hm hm0 hmr
          go_wp2_with fail
          refine (door15v b0 b1 b2 b3 l2 d0 d1 d2 l3 d3 m L F zs _ HF Hm R0 R1 R2 R3 HL n3 (by omega) (by omega)).mono ?_
          rintro e w1 ⟨g1, g2, g3, rfl, p1, p2, p3, q1⟩
          go_wp2_with fail
          refine (door15v none none none b3 0 0 0 0 l3 d3 m0 [] F0 zs _ HF0 Hm0 (.inl rfl) (.inl rfl) (.inl rfl) (R3.mono q1) rfl n3 (by omega) (by omega)).mono ?_
          rintro e w2 ⟨g4, g5, g6, rfl, p4, p5, p6, q2⟩
          go_wp2_with (at_make; refine wpList_make_full _ rfl _ _ 34 rfl w2.heap.size 36 i36 _ 1 Try.underlying34 hi36 hz360 hz361 _ _ _ _ l3 rfl rfl rfl rfl (by rw [hz362]; omega) (by unfold maxLen; omega) (Nat.le_refl _) ?_; intro w3 own3 grow3)
          have q3 : Below w2.heap.size w2 w3 := (Below.refl _ _).grown grow3 (Nat.le_refl _) (fun k h => by cases h)
          have o3 : w3.ownsRow w2.heap.size 36 1 (.slice (some ⟨w2.heap.size, 0, none⟩) l3 l3) l3 (revL zs l3 0) := by
            rw [revL_zero]
            have e : (madeCells (Value.int .u32 0).cells (l3 * 1)).toList = List.replicate l3 (.int .u32 0) := by rw [Nat.mul_one]; exact toList_madeCells_one _ _
            rw [← e]; exact own3
          have q12 : Below we.heap.size we w2 := q1.trans (q2.mono q1.size)
          clear own3 grow3
          go_loopw [22] (fun i wr => ∃ k : Nat, k ≤ l3 ∧ i = .int .i64 k ∧ wr.ownsRow w2.heap.size 36 1 (.slice (some ⟨w2.heap.size, 0, none⟩) l3 l3) l3 (revL zs l3 k) ∧ Below w2.heap.size w2 wr) (fun i _ => l3 - (intOf i).toNat)
          case atStart => exact ⟨0, Nat.zero_le _, rfl, o3, q3⟩
          case round =>
            obtain ⟨k, hk, rfl, hown, hB⟩ := hrel
            clear o3 q3
            by_cases hlt : k < l3
            · obtain ⟨z, hz⟩ := getL zs k (by rw [n3.out]; exact hlt)
              obtain ⟨b, o, hb3, hc⟩ := (R3.mono (q12.trans (hB.mono q12.size))).spot k (.int .u32 z) (by simp [hz])
              subst hb3
              have hi1 : (0 : Int) ≤ (l3 : Int) - 1 - (k : Int) := by omega
              have hi2 : ((l3 : Int) - 1 - (k : Int)).toNat = l3 - 1 - k := by omega
              obtain ⟨v4, hv4⟩ := own_cell hown (show l3 - 1 - k < l3 by omega)
              have hf4 := hown.frozenAt (l3 - 1 - k)
              have nx := (hown.stored (l3 - 1 - k) (.int .u32 z)).1
              rw [revL_succ zs l3 k z hlt hz] at nx
              have NX : Hid _ := nx
              have NB : Hid (Below w2.heap.size w2 (wr.setCell ⟨w2.heap.size, l3 - 1 - k, none⟩ (.int .u32 z))) := hB.setCell (Nat.le_refl _) _
              clear nx hz hown
              go_wp2
              go_roundw
              case rel => exact ⟨k + 1, by omega, by go_num, NX.out, NB.out⟩
              case measure => simp [intOf]; omega
            · have hek : l3 = k := by omega
              subst hek
              rw [revL_all zs l3 n3.out] at hown
              have Rr := Rd.of_own hown
              obtain ⟨w4, hw4⟩ : ∃ w4, w4 = wr := ⟨_, rfl⟩
              subst hw4
              have nr : Hid (zs.reverse.length = l3) := by show zs.reverse.length = l3; rw [List.length_reverse]; exact n3.out
              clear hown
              go_wp2_with fail
              refine (door15v none none none (some ⟨w2.heap.size, 0, none⟩) 0 0 0 0 l3 l3 mr [] Fr zs.reverse _ HFr Hmr (.inl rfl) (.inl rfl) (.inl rfl) Rr rfl nr (by omega) (by omega)).mono ?_
              rintro e w5 ⟨g7, g8, g9, rfl, p7, p8, p9, q5⟩
              have q25 : Below w2.heap.size w2 w5 := hB.trans (q5.mono hB.size)
              have q15 : Below w1.heap.size w1 w5 := q2.trans (q25.mono q2.size)
              have qe5 : Below we.heap.size we w5 := q1.trans (q15.mono q1.size)
              have bw5 : Below w.heap.size w w5 := bwe.trans (qe5.mono bwe.size)
              have R0f := R0.mono qe5
              have R1f := R1.mono qe5
              have R2f := R2.mono qe5
              have p1f := p1.mono q15
              have p2f := p2.mono q15
              have p3f := p3.mono q15
              have p4f := p4.mono q25
              have p5f := p5.mono q25
              have p6f := p6.mono q25
              clear R0 R1 R2 R3 p1 p2 p3 p4 p5 p6 q1 q2 q12 q25 q15 qe5 hB q5 Rr
              have hC : ((m : Int) != (l2 : Int) + (m0 : Int)) = false := by rw [f3.out]; simp
              have hAB : Hid ((2 ≤ l3 ∧ ((m0 : Int) + (mr : Int) == 0) = false) ∨ (l3 ≤ 1 ∧ ((m0 : Int) != 0) = false)) := by
                by_cases h2 : 2 ≤ l3
                · exact .inl ⟨h2, by have := f4.out h2; simp; omega⟩
                · exact .inr ⟨by omega, by rw [f5.out (by omega)]; rfl⟩
              rcases hAB.out with ⟨h2, hA⟩ | ⟨h2, hA⟩
              all_goals
                clear hAB
                go_wp2_with fail
                refine (one16v g4 g5 g6 m0 F0 zs _ HF0 Hm0 p4f p5f p6f).mono ?_
                rintro e w6 ⟨rfl, rfl⟩
                go_wp2_with fail
                refine (one16v g7 g8 g9 mr Fr zs.reverse _ HFr Hmr p7 p8 p9).mono ?_
                rintro e w6 ⟨rfl, rfl⟩
                go_wp2
                go_loopw [27] (fun i wr => ∃ k : Nat, k ≤ l2 ∧ i = .int .i64 k ∧ ∃ j, wr = w5.drewN j) (fun i _ => l2 - (intOf i).toNat)
                case atStart => exact ⟨0, Nat.zero_le _, rfl, 0, rfl⟩
                case round =>
                  obtain ⟨k, hk, rfl, j, rfl⟩ := hrel
                  by_cases hlt : k < l2
                  · obtain ⟨t, ht⟩ := getL L k (by rw [HL.out]; exact hlt)
                    have hFk : F[k]? = some t := by rw [HA.out, List.getElem?_append_left (by rw [HL.out]; exact hlt)]; exact ht
                    have c1 := p1f.at k (.int .i64 t.1) (by simp [rul, hFk])
                    have c2 := p2f.at k (.string t.2.1) (by simp [fld, hFk])
                    have c3 := p3f.at k (.int .i64 t.2.2) (by simp [idx, hFk])
                    obtain ⟨y0, o0, hb0, c4⟩ := R0f.spot k (.int .i64 t.1) (by simp [rul, ht])
                    obtain ⟨y1, o1, hb1, c5⟩ := R1f.spot k (.string t.2.1) (by simp [fld, ht])
                    obtain ⟨y2, o2, hb2, c6⟩ := R2f.spot k (.int .i64 t.2.2) (by simp [idx, ht])
                    subst hb0
                    subst hb1
                    subst hb2
                    obtain ⟨tr, tf, tx⟩ := t
                    simp only at c1 c2 c3 c4 c5 c6
                    have i1 : (k : Int) < (l2 : Int) := by omega
                    have i2 : (k : Int) < (m : Int) := by have := f3.out; omega
                    clear hFk ht
                    go_wp2
                    go_quiet (fail)
                    go_wp2
                    go_roundw
                    case rel => exact ⟨k + 1, by omega, by go_num, _, rfl⟩
                    case measure => simp [intOf]; omega
                  · clear R0f R1f R2f
                    go_wp2
                    go_loopw [28] (fun i wr => ∃ k : Nat, k ≤ m0 ∧ i = .int .i64 k ∧ ∃ j, wr = w5.drewN j) (fun i _ => m0 - (intOf i).toNat)
                    case atStart => exact ⟨0, Nat.zero_le _, rfl, _, rfl⟩
                    case round =>
                      obtain ⟨k, hk, rfl, j, rfl⟩ := hrel
                      by_cases hlt : k < m0
                      · obtain ⟨t, ht⟩ := getL F0 k (by rw [Hm0.out]; exact hlt)
                        have hFk : F[l2 + k]? = some t := by rw [HA.out, List.getElem?_append_right (by rw [HL.out]; omega), HL.out, Nat.add_sub_cancel_left]; exact ht
                        have c1 := p1f.at (l2 + k) (.int .i64 t.1) (by simp [rul, hFk])
                        have c2 := p2f.at (l2 + k) (.string t.2.1) (by simp [fld, hFk])
                        have c3 := p3f.at (l2 + k) (.int .i64 t.2.2) (by simp [idx, hFk])
                        have c4 := p4f.at k (.int .i64 t.1) (by simp [rul, ht])
                        have c5 := p5f.at k (.string t.2.1) (by simp [fld, ht])
                        have c6 := p6f.at k (.int .i64 t.2.2) (by simp [idx, ht])
                        obtain ⟨tr, tf, tx⟩ := t
                        simp only at c1 c2 c3 c4 c5 c6
                        have i1 : (k : Int) < (m0 : Int) := by omega
                        have i2 : (l2 : Int) + (k : Int) < (m : Int) := by have := f3.out; omega
                        have i3 : IntKind.i64.wrap ((l2 : Int) + (k : Int)) = (l2 : Int) + (k : Int) := IntWalk.i64_in _ ⟨by omega, by omega⟩
                        have i4 : ((l2 : Int) + (k : Int)).toNat = l2 + k := by omega
                        have i5 : (0 : Int) ≤ (l2 : Int) + (k : Int) := by omega
                        clear hFk ht
                        go_wp2
                        go_quiet (fail)
                        go_wp2
                        go_roundw
                        case rel => exact ⟨k + 1, by omega, by go_num, _, rfl⟩
                        case measure => simp [intOf]; omega
                      · go_wp2
                        go_ret
                        exact ⟨rfl, bw5.trans ((Same.drewN w5 j).2.mono bw5.size)⟩
        · have g : ((l2 : Int) != (l0 : Int)) = true := by simp; omega
          go_wp2
          go_ret
          exact ⟨rfl, bwe⟩
      · have g : ((l1 : Int) != (l0 : Int)) = true := by simp; omega
        go_wp2
        go_ret
        exact ⟨rfl, bwe⟩
end Go.Proofs.Qxb6608961a.chk
