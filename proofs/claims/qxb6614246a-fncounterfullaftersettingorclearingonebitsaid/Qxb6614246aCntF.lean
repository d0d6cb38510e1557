import Derived.Test.Qxb6614246aCntE
namespace Go.Proofs.Qxb6614246a.cnt
open Go.RowKit
set_option linter.unusedVariables false
attribute [local go_sem ↓] Go.wp_at_zero Go.wp_at_succ

set_option maxRecDepth 100000 in
theorem early6 (a : Option Addr) (l c : Nat) (n i : Int) (w : World) (h : 1048576 < l) : Calls Try.prog 6 #[.int .i64 n, .slice a l c, .int .i64 i] w fun e w' => e = .returned (.bool true) ∧ Below w.heap.size w w' := by
  go_enter Try.func6, Try.ntmps6
  go_wp2_with (go_at_call 21; refine (large21 _ _ _ _ _ _ h).mono ?_; rintro e w' ⟨rfl, rfl⟩)
  go_ret
  exact ⟨rfl, Below.refl _ _⟩

theorem clone_len (x : Addr) (cap l : Nat) (zs : List Int) (w : World) (hr : Rd w (some x) zs) (hl : zs.length = l) (hlen : l ≤ 1073741824) :
    Calls Try.prog 22 #[.slice (some x) l cap] w fun e w' => e = .returned (.slice (some ⟨w.heap.size, 0, none⟩) l l) ∧
      w'.ownsRow w.heap.size 5 1 (.slice (some ⟨w.heap.size, 0, none⟩) l l) l (zs.map (Value.int .u8)) ∧ Below w.heap.size w w' := by
  subst hl
  exact clone_some x cap zs w hr hlen

theorem own_below {w w' : World} {B : Nat} {e : TypeId} {size n : Nat} {v : Value} {xs : List Value} (h : w.ownsRow B e size v n xs) (hs : Below w.heap.size w w') : w'.ownsRow B e size v n xs := by
  obtain ⟨h1, h2⟩ := h
  refine ⟨h1, ?_⟩
  rcases h2 with h2 | ⟨g, cap, cur, hv, hg, hh, r⟩
  · exact .inl h2
  · exact .inr ⟨g, cap, cur, hv, hg, by rw [hs.block g (lt_of_block hh)]; exact hh, r⟩

set_option maxHeartbeats 4000000 in
set_option maxRecDepth 100000 in
theorem core6 (a : Option Addr) (l c : Nat) (n0 i0 : Int) (os : List Int) (w : World) (hr : Rd w a os) (hl : Hid (os.length = l)) (hok : Hid (Okay os)) (hb : l ≤ 1048576) :
    Calls Try.prog 6 #[.int .i64 n0, .slice a l c, .int .i64 i0] w fun e w' => e = .returned (.bool true) ∧ Below w.heap.size w w' := by
  obtain ⟨i5, hi5, hz50, hz51, hz52⟩ := info_parts info5
  have hq36 : ∀ (w : World) (a : Option Addr) (n c : Nat), (binOp .neq 36 (.slice a n c) (.slice none 0 0)).run Try.prog w = .ok (.bool (!a.isNone)) w := fun w a n c => run_neq_slice_nil_any w _ _ a n c 0 0 Try.underlying36
  go_enter Try.func6, Try.ntmps6
  go_wp2_with (go_at_call 21; refine (small21 _ _ _ _ _ _ hb).mono ?_; rintro e w' ⟨rfl, rfl⟩)
  refine (valid15 a l c n0 os _ hr hl hb).mono ?_
  rintro e w1 ⟨rfl | ⟨rfl, hn0, hn1, hv⟩, m1, hw1⟩
  · have bA : Below w.heap.size w w1 := by rw [hw1]; exact (Same.drewN _ _).2
    clear hw1
    go_wp2
    go_ret
    exact ⟨rfl, bA⟩
  have bA : Below w.heap.size w w1 := by rw [hw1]; exact (Same.drewN _ _).2
  clear hw1
  have rA := hr.mono bA
  obtain ⟨n, rfl⟩ : ∃ n : Nat, n0 = (n : Int) := ⟨n0.toNat, by omega⟩
  have hn : n ≤ 8 * l := by have := hl.out; omega
  have HV : Hid (∀ j, n ≤ j → j < 8 * os.length → bitAt os j = false) := fun j h1 h2 => hv j (by omega) h2
  clear hv hn0 hn1 hr
  by_cases hi0 : 0 ≤ i0
  case neg =>
    have hi0' : i0 < 0 := by omega
    go_wp2
    go_ret
    exact ⟨rfl, bA⟩
  by_cases hi1 : i0 < (n : Int)
  case neg =>
    have hi1' : (n : Int) ≤ i0 := by omega
    go_wp2
    go_ret
    exact ⟨rfl, bA⟩
  obtain ⟨i, rfl⟩ : ∃ i : Nat, i0 = (i : Int) := ⟨i0.toNat, by omega⟩
  have hin : i < n := by omega
  have hd1 : decide ((n : Int) ≤ (i : Int)) = false := by simp; omega
  clear hi0 hi1
  go_upto_if 36 with fail
  go_cut [1] from 16 to 43 (fun s wx => ∃ x c', s = .slice (some x) l c' ∧ Rd wx (some x) os ∧ Below w1.heap.size w1 wx)
  case first =>
    cases a with
    | none =>
      exfalso
      rcases rA with h | ⟨b, o, h, _⟩
      · have := hl.out; rw [h] at this; simp at this; omega
      · cases h
    | some x =>
      go_wp2_with (first | (at_make; refine wpList_make_full _ rfl (.tmp 38) (.tmp 38) 36 rfl w1.heap.size 5 i5 _ 1 Try.underlying36 hi5 hz50 hz51 _ _ _ _ l rfl rfl rfl rfl (by rw [hz52]; omega) (by unfold maxLen; omega) (Nat.le_refl _) ?_; intro wk own2 grow2; have g2 : Below w1.heap.size w1 wk := (Below.refl _ _).grown grow2 (Nat.le_refl _) (fun k h => by cases h); have hbk := own_block own2; clear own2 grow2) | (refine wpList_copy_splice rfl (.tmp 40) (.tmp 41) 36 36 rfl 5 Try.underlying36 size5 _ _ _ _ _ _ rfl rfl w1.heap.size 0 _ 5 hbk (os.map (Value.int .u8)) (by rw [List.length_map, hl.out]; exact (Nat.min_self _).symm) (src_of rA g2 _) (by rw [List.length_map, hl.out, made_len]; omega) (ints_oneCell _ _) w1.heap.size w1 g2 (Nat.le_refl _) ?_; intro wj hgj hbj))
      go_meet
      exact ⟨_, _, rfl, copied hgj.out (by rw [hl.out, made_len]), hbj⟩
  case rest =>
  obtain ⟨w2, hw2⟩ : ∃ y, y = wc := ⟨_, rfl⟩
  subst hw2
  obtain ⟨x2, c2, rfl, r2, bB⟩ := hcut
  have bw2 : Below w.heap.size w w2 := bA.trans (bB.mono bA.size)
  clear rA bA bB hq36
  have i1 : (i : Int) / 8 < (l : Int) := by omega
  have i2 : (0 : Int) ≤ (i : Int) / 8 := by omega
  have i3 : ((i : Int) / 8).toNat = i / 8 := by omega
  have i4 : (i : Int).tdiv 8 = (i : Int) / 8 := Int.tdiv_eq_ediv_of_nonneg (by omega)
  have i6 : IntKind.i64.wrap ((i : Int) / 8) = (i : Int) / 8 := IntWalk.i64_in _ ⟨by omega, by omega⟩
  obtain ⟨o, ho⟩ : ∃ o, os.getD (i / 8) 0 = o := ⟨_, rfl⟩
  have HO : Hid (os.getD (i / 8) 0 = o) := ho
  clear ho
  have hoc : ∀ (y : World) (g B : Nat), y.ownsRow B 5 1 (.slice (some ⟨g, 0, none⟩) l l) l (os.map (Value.int .u8)) → y.cell? ⟨g, i / 8, none⟩ = some (.int .u8 o) := fun y g B h => by
    rw [h.cellAt (i / 8) (by omega), ← HO.out]
    have := hl.out
    simp [List.getD, show i / 8 < os.length by omega]
  go_upto_region 14 with (go_at_call 22; refine (clone_len x2 c2 l os _ r2 hl.out (by omega)).mono ?_; rintro e w3 ⟨rfl, own3, b3⟩)
  have c8 := hoc _ _ _ own3
  have f8 := own3.frozenAt (i / 8)
  have nx := (own3.stored (i / 8) (.int .u8 (bits .or .u8 o (mk i)))).1
  rw [set_map_int] at nx
  have NX : Hid ((w3.setCell ⟨w2.heap.size, i / 8, none⟩ (.int .u8 (bits .or .u8 o (mk i)))).ownsRow w2.heap.size 5 1 (.slice (some ⟨w2.heap.size, 0, none⟩) l l) l ((orAt os i).map (Value.int .u8))) := by unfold orAt; rw [HO.out]; exact nx
  have NB : Hid (Below w2.heap.size w2 (w3.setCell ⟨w2.heap.size, i / 8, none⟩ (.int .u8 (bits .or .u8 o (mk i))))) := b3.setCell (Nat.le_refl _) _
  clear nx own3
  go_cut [] from 46 to 54 (fun wx => wx.ownsRow w2.heap.size 5 1 (.slice (some ⟨w2.heap.size, 0, none⟩) l l) l ((orAt os i).map (Value.int .u8)) ∧ Below w2.heap.size w2 wx)
  case first =>
    go_region_with (go_at_call 17; refine (mask17 i _ (by omega)).mono ?_; rintro e w5 ⟨rfl, rfl⟩)
    all_goals
      go_wp2
      go_meet
      exact ⟨NX.out, ⟨NB.out.os, NB.out.tape, NB.out.output, NB.out.size, NB.out.block⟩⟩
  case rest =>
  obtain ⟨w4, hw4⟩ : ∃ y, y = wc := ⟨_, rfl⟩
  subst hw4
  obtain ⟨ownS, b4⟩ := hcut
  have r4 := r2.mono b4
  clear c8 f8 NX NB b3
  go_upto_region 16 with (go_at_call 22; refine (clone_len x2 c2 l os _ r4 hl.out (by omega)).mono ?_; rintro e w5 ⟨rfl, own5, b5⟩)
  have c8 := hoc _ _ _ own5
  have f8 := own5.frozenAt (i / 8)
  have nx := (own5.stored (i / 8) (.int .u8 (bits .andNot .u8 o (mk i)))).1
  rw [set_map_int] at nx
  have NX : Hid ((w5.setCell ⟨w4.heap.size, i / 8, none⟩ (.int .u8 (bits .andNot .u8 o (mk i)))).ownsRow w4.heap.size 5 1 (.slice (some ⟨w4.heap.size, 0, none⟩) l l) l ((notAt os i).map (Value.int .u8))) := by unfold notAt; rw [HO.out]; exact nx
  have NB : Hid (Below w4.heap.size w4 (w5.setCell ⟨w4.heap.size, i / 8, none⟩ (.int .u8 (bits .andNot .u8 o (mk i))))) := b5.setCell (Nat.le_refl _) _
  clear nx own5 hoc
  go_cut [] from 57 to 65 (fun wx => wx.ownsRow w4.heap.size 5 1 (.slice (some ⟨w4.heap.size, 0, none⟩) l l) l ((notAt os i).map (Value.int .u8)) ∧ Below w4.heap.size w4 wx)
  case first =>
    go_region_with (go_at_call 17; refine (mask17 i _ (by omega)).mono ?_; rintro e w6 ⟨rfl, rfl⟩)
    all_goals
      go_wp2
      go_meet
      exact ⟨NX.out, ⟨NB.out.os, NB.out.tape, NB.out.output, NB.out.size, NB.out.block⟩⟩
  case rest =>
  obtain ⟨w6, hw6⟩ : ∃ y, y = wc := ⟨_, rfl⟩
  subst hw6
  obtain ⟨ownC, b6⟩ := hcut
  have rO := r4.mono b6
  have rS := (Rd.of_own ownS).mono b6
  have rC := Rd.of_own ownC
  have b26 : Below w2.heap.size w2 w6 := b4.trans (b6.mono b4.size)
  have bw6 : Below w.heap.size w w6 := bw2.trans (b26.mono bw2.size)
  obtain ⟨law0, law1, law2⟩ := one_law os hok.out i n (by rw [hl.out]; exact hn) hin HV.out
  have L0 : Hid (full (notAt os i) n = false) := law0
  have L1 : Hid (full os n = decide (zer os n = 0)) := law1
  have L2 : Hid (full (orAt os i) n = (decide (zer os n = 0) || (decide (zer os n = 1) && !bitAt os i))) := law2
  have lS : Hid ((orAt os i).length = l) := by show _ = _; rw [len_or]; exact hl.out
  have lC : Hid ((notAt os i).length = l) := by show _ = _; rw [len_not]; exact hl.out
  have kS : Hid (Okay (orAt os i)) := okay_or os hok.out i
  have kC : Hid (Okay (notAt os i)) := okay_not os hok.out i
  have zb : Hid (∀ k, zer os k ≤ k) := fun k => by have := cnt_zer os k; omega
  clear law0 law1 law2 ownS ownC r2 r4 b4 b6 b26 bw2 c8 f8 NX NB b5 HV HO i1 i2 i3 i4 i6
  go_wp2
  go_loopw [10, 11] (fun z t wr => ∃ k : Nat, k ≤ n ∧ t = .int .i64 k ∧ z = .int .i64 (zer os k : Nat) ∧ ∃ m, wr = w6.drewN m) (fun _ t _ => n - (intOf t).toNat)
  case atStart => exact ⟨0, Nat.zero_le _, rfl, rfl, 0, rfl⟩
  case round =>
    obtain ⟨k, hk, rfl, rfl, m, rfl⟩ := hrel
    have hzk := zb.out k
    by_cases hlt : k < n
    · have rr : Rd (w6.drewN m) (some x2) os := rO
      cases hbit : bitAt os k with
      | true =>
        have HB : Hid (bitAt os k = true) := hbit
        have hnx : Hid (zer os (k + 1) = zer os k) := by show zer os (k + 1) = _; simp only [zer]; rw [hbit]; simp
        clear hbit
        go_wp2_with (go_at_call 16; refine (bit16 _ l c2 k os _ rr hl (by omega) hb).mono ?_; rintro e w7 ⟨rfl, m7, rfl⟩; rw [HB.out])
        go_roundw
        case rel => exact ⟨k + 1, by omega, by go_num, by rw [hnx.out], _, rfl⟩
        case measure => simp [intOf]; omega
      | false =>
        have HB : Hid (bitAt os k = false) := hbit
        have hnx : Hid (zer os (k + 1) = zer os k + 1) := by show zer os (k + 1) = _; simp only [zer]; rw [hbit]; simp
        clear hbit
        go_wp2_with (go_at_call 16; refine (bit16 _ l c2 k os _ rr hl (by omega) hb).mono ?_; rintro e w7 ⟨rfl, m7, rfl⟩; rw [HB.out])
        go_roundw
        case rel => exact ⟨k + 1, by omega, by go_num, by rw [hnx.out]; go_num, _, rfl⟩
        case measure => simp [intOf]; omega
    · have hek : n = k := by omega
      subst hek
      have rr : Rd (w6.drewN m) (some x2) os := rO
      go_wp2_with fail
      refine (bit16 _ l c2 i os _ rr hl (by omega) hb).mono ?_
      rintro e w7 ⟨rfl, m7, hw7⟩
      have b7 : Below w6.heap.size w6 w7 := by rw [hw7]; exact ((Same.drewN w6 m).2).trans (Same.drewN (w6.drewN m) m7).2
      clear hw7
      have rO7 := rO.mono b7
      have rS7 := rS.mono b7
      have rC7 := rC.mono b7
      clear rr rO rS rC
      obtain ⟨z, hz⟩ : ∃ z, zer os n = z := ⟨_, rfl⟩
      rw [hz] at hzk ⊢
      have M1 : Hid (full os n = decide (z = 0)) := by rw [← hz]; exact L1.out
      have M2 : Hid (full (orAt os i) n = (decide (z = 0) || (decide (z = 1) && !bitAt os i))) := by rw [← hz]; exact L2.out
      clear L1 L2 hz
      obtain ⟨b, hbb⟩ : ∃ b, bitAt os i = b := ⟨_, rfl⟩
      have M3 : Hid (full (orAt os i) n = (decide (z = 0) || (decide (z = 1) && !b))) := by rw [← hbb]; exact M2.out
      rw [hbb]
      clear M2 hbb
      go_wp2_with fail
      refine (new18 _ _ _ _ _).mono ?_
      rintro e w8 ⟨rfl, b8⟩
      have rO8 := rO7.mono b8
      go_wp2_with fail
      refine (full19 _ l c2 n os _ rO8 hl hok hb).mono ?_
      rintro e w9 ⟨rfl, b9⟩
      rw [M1.out]
      go_wp2_with fail
      refine (new18 _ _ _ _ _).mono ?_
      rintro e w10 ⟨rfl, b10⟩
      have b710 : Below w7.heap.size w7 w10 := (b8.trans (b9.mono b8.size)).trans (b10.mono (Nat.le_trans b8.size b9.size))
      have rS10 := rS7.mono b710
      go_wp2_with fail
      refine (full19 _ l l n (orAt os i) _ rS10 lS kS hb).mono ?_
      rintro e w11 ⟨rfl, b11⟩
      rw [M3.out]
      go_wp2_with fail
      refine (new18 _ _ _ _ _).mono ?_
      rintro e w12 ⟨rfl, b12⟩
      have b712 : Below w7.heap.size w7 w12 := (b710.trans (b11.mono b710.size)).trans (b12.mono (Nat.le_trans b710.size b11.size))
      have rC12 := rC7.mono b712
      go_wp2_with fail
      refine (full19 _ l l n (notAt os i) _ rC12 lC kC hb).mono ?_
      rintro e w13 ⟨rfl, b13⟩
      rw [L0.out]
      have b613 : Below w6.heap.size w6 w13 := (b7.trans (b712.mono b7.size)).trans (b13.mono (Nat.le_trans b7.size b712.size))
      have bfin := bw6.trans (b613.mono bw6.size)
      clear b8 b9 b10 b710 b11 b12 b712 b13 b613 rO7 rS7 rC7 rO8 rS10 rC12 M1 M3 L0 b7
      rcases (show z = 0 ∨ z = 1 ∨ 2 ≤ z by omega) with hz | hz | hz
      · subst hz
        go_wp2
        go_ret
        exact ⟨rfl, bfin⟩
      · subst hz
        cases b
        · go_wp2
          go_ret
          exact ⟨rfl, bfin⟩
        · go_wp2
          go_ret
          exact ⟨rfl, bfin⟩
      · have y0 : decide (z = 0) = false := by simp; omega
        have y1 : decide (z = 1) = false := by simp; omega
        have y2 : ((z : Int) == 0) = false := by simp; omega
        have y3 : ((z : Int) == 1) = false := by simp; omega
        rw [y0, y1]
        go_wp2
        go_ret
        exact ⟨rfl, bfin⟩

end Go.Proofs.Qxb6614246a.cnt
