import Derived.Test.Qxb6614246aCntD
import Derived.Deep.DeepCutAuto
import Derived.Deep.RegionWith
namespace Go.Proofs.Qxb6614246a.cnt
open Go.RowKit
set_option linter.unusedVariables false
attribute [local go_sem ↓] Go.wp_at_zero Go.wp_at_succ

theorem own_block {w : World} {B g n : Nat} {e : TypeId} {xs : List Value} (h : w.ownsRow B e 1 (.slice (some ⟨g, 0, none⟩) n n) n xs) : w.heap[g]? = some (.cells xs.toArray e (0, 0)) := by
  rcases h.2 with ⟨h', _⟩ | ⟨g', cap', cur, h', _, hg, _, _, hs, ht⟩
  · simp at h'
  · simp only [Value.slice.injEq, Option.some.injEq, Addr.mk.injEq, and_true, true_and] at h'
    obtain ⟨rfl, rfl⟩ := h'
    have : cur = xs.toArray := by
      rw [← ht, List.take_of_length_le (by simp; omega)]
    rw [← this]; exact hg

theorem copied {w : World} {g : Nat} {e : TypeId} {cur : List Value} {os : List Int} (h : w.heap[g]? = some (.cells (splice cur 0 (os.map (Value.int .u8))).toArray e (0, 0))) (hl : cur.length = os.length) : Rd w (some ⟨g, 0, none⟩) os := by
  have es : splice cur 0 (os.map (Value.int .u8)) = os.map (Value.int .u8) := by simp [splice]; omega
  rw [es] at h
  refine .inr ⟨g, 0, rfl, fun j hj => ?_⟩
  rw [Nat.zero_add, cell_of_row w g j _ _ _ h]
  simp [List.getD, hj]

theorem made_len (n : Nat) : ((madeCells (Value.int .u8 0).cells (n * 1)).toList).length = n := by rw [Nat.mul_one]; show (madeCells #[Value.int .u8 0] n).toList.length = n; rw [toList_madeCells_one]; simp

theorem src_of {w w' : World} {a : Option Addr} {os : List Int} (h : Rd w a os) (hb : Below w.heap.size w w') (g : Nat) :
    0 < (os.map (Value.int .u8)).length → (some ⟨g, 0, none⟩ : Option Addr) = some ⟨g, 0, none⟩ ∧ ∃ ad, a = some ad ∧ ∀ j v, (os.map (Value.int .u8))[j]? = some v → w'.cell? (ad.add j) = some v := by
  intro hp
  rcases h with h | ⟨b, off, rfl, hc⟩
  · rw [h] at hp; simp at hp
  · refine ⟨rfl, _, rfl, fun j v hj => ?_⟩
    have hjl : j < (os.map (Value.int .u8)).length := (List.getElem?_eq_some_iff.1 hj).1
    rw [List.length_map] at hjl
    rw [Addr.add_lit, ← hj, cell_later hb (hc j hjl)]
    simp [List.getD, hjl]

theorem size5 : (Try.prog.info? 5).map (·.size) = some 1 := by kernel_rfl

theorem Rd.of_own {w : World} {B n c : Nat} {a : Option Addr} {zs : List Int} (h : w.ownsRow B 5 1 (.slice a n c) n (zs.map (Value.int .u8))) : Rd w a zs := by
  have hn : n = zs.length := by have := h.1; simp at this; omega
  subst hn
  rcases h.2 with ⟨h', h0⟩ | ⟨g, cap, cur, h', hb, hg, _⟩
  · exact .inl (List.eq_nil_of_length_eq_zero h0)
  · simp at h'
    obtain ⟨rfl, rfl⟩ := h'
    refine .inr ⟨g, 0, rfl, fun j hj => ?_⟩
    rw [Nat.zero_add, h.cellAt j (by omega)]
    simp [List.getD, hj]

theorem okay_zero (n : Nat) : Okay (List.replicate n 0) := fun o ho => by rw [(List.mem_replicate.1 ho).2]; omega
theorem bit_zero (n j : Nat) : bitAt (List.replicate n 0) j = false := by
  have : (List.replicate n (0 : Int)).getD (j / 8) 0 = 0 := by simp [List.getD, List.getElem?_replicate]; split <;> rfl
  unfold bitAt
  rw [this, bitv_mod]
  exact fin_zero ⟨j % 8, by omega⟩

set_option maxRecDepth 100000 in
theorem early5 (a : Option Addr) (l c : Nat) (n : Int) (w : World) (h : 1048576 < l) : Calls Try.prog 5 #[.int .i64 n, .slice a l c] w fun e w' => e = .returned (.bool true) ∧ Below w.heap.size w w' := by
  go_enter Try.func5, Try.ntmps5
  go_wp2_with (go_at_call 14; refine (large14 _ _ _ _ _ h).mono ?_; rintro e w' ⟨rfl, rfl⟩)
  go_ret
  exact ⟨rfl, Below.refl _ _⟩

set_option maxHeartbeats 4000000 in
set_option maxRecDepth 100000 in
theorem core5 (a : Option Addr) (l c : Nat) (n0 : Int) (os : List Int) (w : World) (hr : Rd w a os) (hl : Hid (os.length = l)) (hok : Hid (Okay os)) (hb : l ≤ 1048576) :
    Calls Try.prog 5 #[.int .i64 n0, .slice a l c] w fun e w' => e = .returned (.bool true) ∧ Below w.heap.size w w' := by
  obtain ⟨i5, hi5, hz50, hz51, hz52⟩ := info_parts info5
  have hq36 : ∀ (w : World) (a : Option Addr) (n c : Nat), (binOp .neq 36 (.slice a n c) (.slice none 0 0)).run Try.prog w = .ok (.bool (!a.isNone)) w := fun w a n c => run_neq_slice_nil_any w _ _ a n c 0 0 Try.underlying36
  go_enter Try.func5, Try.ntmps5
  go_wp2_with (go_at_call 14; refine (small14 _ _ _ _ _ hb).mono ?_; rintro e w' ⟨rfl, rfl⟩)
  refine (valid15 a l c n0 os _ hr hl hb).mono ?_
  rintro e w1 ⟨rfl | ⟨rfl, hn0, hn1, hv⟩, m1, hw1⟩
  · have bA : Below w.heap.size w w1 := by rw [hw1]; exact (Same.drewN _ _).2
    clear hw1
    go_wp2
    go_ret
    exact ⟨rfl, bA⟩
  have bA : Below w.heap.size w w1 := by rw [hw1]; exact (Same.drewN _ _).2
  clear hw1
  have rA := hr.mono bA
  obtain ⟨n, rfl⟩ : ∃ n : Nat, n0 = (n : Int) := ⟨n0.toNat, by omega⟩
  have hn : n ≤ 8 * l := by have := hl.out; omega
  have HV : Hid (∀ j, n ≤ j → j < 8 * os.length → bitAt os j = false) := fun j h1 h2 => hv j (by omega) h2
  clear hv hn0 hn1 hr
  go_upto_if 22 with fail
  go_cut [1] from 10 to 29 (fun s wx => ∃ a' c', s = .slice a' l c' ∧ Rd wx a' os ∧ Below w1.heap.size w1 wx)
  case first =>
    cases a with
    | none =>
      go_wp2
      go_meet
      exact ⟨_, _, rfl, rA, Below.refl _ _⟩
    | some x =>
      go_wp2_with (first | (at_make; refine wpList_make_full _ rfl (.tmp 24) (.tmp 24) 36 rfl w1.heap.size 5 i5 _ 1 Try.underlying36 hi5 hz50 hz51 _ _ _ _ l rfl rfl rfl rfl (by rw [hz52]; omega) (by unfold maxLen; omega) (Nat.le_refl _) ?_; intro wk own2 grow2; have g2 : Below w1.heap.size w1 wk := (Below.refl _ _).grown grow2 (Nat.le_refl _) (fun k h => by cases h); have hbk := own_block own2; clear own2 grow2) | (refine wpList_copy_splice rfl (.tmp 26) (.tmp 27) 36 36 rfl 5 Try.underlying36 size5 _ _ _ _ _ _ rfl rfl w1.heap.size 0 _ 5 hbk (os.map (Value.int .u8)) (by rw [List.length_map, hl.out]; exact (Nat.min_self _).symm) (src_of rA g2 _) (by rw [List.length_map, hl.out, made_len]; omega) (ints_oneCell _ _) w1.heap.size w1 g2 (Nat.le_refl _) ?_; intro wj hgj hbj))
      go_meet
      exact ⟨_, _, rfl, copied hgj.out (by rw [hl.out, made_len]), hbj⟩
  case rest =>
  obtain ⟨w2, hw2⟩ : ∃ y, y = wc := ⟨_, rfl⟩
  subst hw2
  obtain ⟨a2, c2, rfl, r2, bB⟩ := hcut
  have bw2 : Below w.heap.size w w2 := bA.trans (bB.mono bA.size)
  clear rA bA bB hq36
  go_wp2_with (at_make; refine wpList_make_full _ rfl _ _ 36 rfl w2.heap.size 5 i5 _ 1 Try.underlying36 hi5 hz50 hz51 _ _ _ _ l rfl rfl rfl rfl (by rw [hz52]; omega) (by unfold maxLen; omega) (Nat.le_refl _) ?_; intro w3 own3 grow3)
  have b3 : Below w2.heap.size w2 w3 := (Below.refl _ _).grown grow3 (Nat.le_refl _) (fun k h => by cases h)
  have o3 : w3.ownsRow w2.heap.size 5 1 (.slice (some ⟨w2.heap.size, 0, none⟩) l l) l ((List.replicate l 0).map (Value.int .u8)) := by
    have e : (madeCells (Value.int .u8 0).cells (l * 1)).toList = (List.replicate l 0).map (Value.int .u8) := by rw [Nat.mul_one]; show (madeCells #[Value.int .u8 0] l).toList = _; rw [toList_madeCells_one]; simp
    rw [← e]; exact own3
  clear own3 grow3
  go_loopw [7] (fun i wr => ∃ k : Nat, k ≤ n ∧ i = .int .i64 k ∧ ∃ cs : List Int, cs.length = l ∧ Okay cs ∧ (∀ j, j < 8 * l → bitAt cs j = (decide (j < k) && !bitAt os j)) ∧ wr.ownsRow w2.heap.size 5 1 (.slice (some ⟨w2.heap.size, 0, none⟩) l l) l (cs.map (Value.int .u8)) ∧ Below w2.heap.size w2 wr) (fun i _ => n - (intOf i).toNat)
  case atStart => exact ⟨0, Nat.zero_le _, rfl, List.replicate l 0, by simp, okay_zero l, fun j _ => by rw [bit_zero]; simp, o3, b3⟩
  case round =>
    obtain ⟨k, hk, rfl, cs, hcl, hco, hcb, hown, hB⟩ := hrel
    have HCL : Hid (cs.length = l) := hcl
    have HCO : Hid (Okay cs) := hco
    have HCB : Hid (∀ j, j < 8 * l → bitAt cs j = (decide (j < k) && !bitAt os j)) := hcb
    clear o3 b3 hcl hco hcb
    by_cases hlt : k < n
    · have rr := r2.mono hB
      cases hbit : bitAt os k with
      | true =>
        have HB : Hid (bitAt os k = true) := hbit
        have hnx : Hid (∀ j, j < 8 * l → bitAt cs j = (decide (j < k + 1) && !bitAt os j)) := by
          intro j hj
          rw [HCB.out j hj]
          by_cases e : j = k
          · rw [e, hbit]; simp
          · congr 1; exact decide_eq_decide.2 ⟨fun h => by omega, fun h => by omega⟩
        clear hbit
        go_wp2_with (go_at_call 16; refine (bit16 a2 l c2 k os _ rr hl (by omega) hb).mono ?_; rintro e w4 ⟨rfl, m4, rfl⟩; rw [HB.out])
        go_roundw
        case rel => exact ⟨k + 1, by omega, by go_num, cs, HCL.out, HCO.out, hnx.out, hown, hB.trans ((Same.drewN wr _).2.mono hB.size)⟩
        case measure => simp [intOf]; omega
      | false =>
        have HB : Hid (bitAt os k = false) := hbit
        obtain ⟨o, ho⟩ : ∃ o, cs.getD (k / 8) 0 = o := ⟨_, rfl⟩
        have hc8 : wr.cell? ⟨w2.heap.size, k / 8, none⟩ = some (.int .u8 o) := by
          rw [hown.cellAt (k / 8) (by omega), ← ho]
          have := HCL.out
          simp [List.getD, show k / 8 < cs.length by omega]
        have hf8 := hown.frozenAt (k / 8)
        have hnx : Hid (∀ j, j < 8 * l → bitAt (orAt cs k) j = (decide (j < k + 1) && !bitAt os j)) := by
          intro j hj
          rw [bitAt_or cs HCO.out k j (by have := HCL.out; omega), HCB.out j hj]
          by_cases e : j = k
          · rw [e, hbit]; simp
          · have e1 : decide (j = k) = false := by simpa using e
            have e2 : decide (j < k + 1) = decide (j < k) := decide_eq_decide.2 ⟨fun h => by omega, fun h => by omega⟩
            rw [e1, e2, Bool.or_false]
        have nx := (hown.stored (k / 8) (.int .u8 (bits .or .u8 o (mk k)))).1
        rw [set_map_int] at nx
        have NX : Hid ((wr.setCell ⟨w2.heap.size, k / 8, none⟩ (.int .u8 (bits .or .u8 o (mk k)))).ownsRow w2.heap.size 5 1 (.slice (some ⟨w2.heap.size, 0, none⟩) l l) l ((orAt cs k).map (Value.int .u8))) := by unfold orAt; rw [ho]; exact nx
        have NB : Hid (Below w2.heap.size w2 (wr.setCell ⟨w2.heap.size, k / 8, none⟩ (.int .u8 (bits .or .u8 o (mk k))))) := hB.setCell (Nat.le_refl _) _
        have i1 : (k : Int) / 8 < (l : Int) := by omega
        have i2 : (0 : Int) ≤ (k : Int) / 8 := by omega
        have i3 : ((k : Int) / 8).toNat = k / 8 := by omega
        have i4 : (k : Int).tdiv 8 = (k : Int) / 8 := Int.tdiv_eq_ediv_of_nonneg (by omega)
        have i5 : IntKind.i64.wrap ((k : Int) / 8) = (k : Int) / 8 := IntWalk.i64_in _ ⟨by omega, by omega⟩
        clear hbit ho nx
        go_wp2_with (go_at_call 16; refine (bit16 a2 l c2 k os _ rr hl (by omega) hb).mono ?_; rintro e w4 ⟨rfl, m4, rfl⟩; rw [HB.out])
        go_region_with (go_at_call 17; refine (mask17 k _ (by omega)).mono ?_; rintro e w5 ⟨rfl, rfl⟩)
        all_goals
          go_wp2
          go_roundw
          case rel => exact ⟨k + 1, by omega, by go_num, orAt cs k, by rw [len_or]; exact HCL.out, okay_or cs HCO.out k, hnx.out, NX.out, ⟨NB.out.os, NB.out.tape, NB.out.output, NB.out.size, NB.out.block⟩⟩
          case measure => simp [intOf]; omega
    · have hek : n = k := by omega
      subst hek
      obtain ⟨wf, hwf⟩ : ∃ y, y = wr := ⟨_, rfl⟩
      subst hwf
      have law := comp_law os cs hok.out HCO.out (by rw [HCL.out, hl.out]) n (by rw [hl.out]; exact hn) HV.out (by rw [hl.out]; exact HCB.out)
      have L1 : Hid (full os n = allz cs) := law.1
      have L2 : Hid (full cs n = allz os) := law.2
      have rO := r2.mono hB
      have rC := Rd.of_own hown
      have bwf : Below w.heap.size w wf := bw2.trans (hB.mono bw2.size)
      clear law HCB HV r2 hB hown bw2
      go_wp2_with fail
      refine (new18 _ _ _ _ _).mono ?_
      rintro e w4 ⟨rfl, b4⟩
      go_wp2_with fail
      refine (new18 _ _ _ _ _).mono ?_
      rintro e w5 ⟨rfl, b5⟩
      have k0 : ∀ x, (w5.alloc x).cell? ⟨w4.heap.size, 0, none⟩ = some (.int .i64 (n : Int)) := fun x => by
        have hlt : w4.heap.size < w5.heap.size := by have := b5.size; simp at this; omega
        rw [World.cell?_alloc_past _ _ _ hlt, b5.cell (by simp)]; simp
      have k1 : ∀ x, (w5.alloc x).cell? ⟨w4.heap.size, 1, none⟩ = some (.slice a2 l c2) := fun x => by
        have hlt : w4.heap.size < w5.heap.size := by have := b5.size; simp at this; omega
        rw [World.cell?_alloc_past _ _ _ hlt, b5.cell (by simp)]; simp
      have bf5 : ∀ x, Below wf.heap.size wf (w5.alloc x) := fun x => by
        have h1 : Below wf.heap.size wf (w4.alloc (.cells #[.int .i64 (n : Int), .slice a2 l c2] 41)) := b4.alloc b4.size _
        have h2 := h1.trans (b5.mono h1.size)
        exact h2.alloc h2.size _
      go_wp2_with fail
      refine (full19 a2 l c2 n os _ (rO.mono (bf5 _)) hl hok hb).mono ?_
      rintro e w6 ⟨rfl, b6⟩
      rw [L1.out]
      have h6 : Below wf.heap.size wf w6 := by
        have h1 := bf5 (.cells #[.int .i64 (n : Int), .slice (some ⟨w2.heap.size, 0, none⟩) l l] 41)
        exact h1.trans (b6.mono h1.size)
      have j0 : w6.cell? ⟨w5.heap.size, 0, none⟩ = some (.int .i64 (n : Int)) := by rw [b6.cell (by simp)]; simp
      have j1 : w6.cell? ⟨w5.heap.size, 1, none⟩ = some (.slice (some ⟨w2.heap.size, 0, none⟩) l l) := by rw [b6.cell (by simp)]; simp
      have rC6 := rC.mono h6
      have rO6 := rO.mono h6
      clear k0 k1 bf5 rC rO b6 b5 b4
      go_wp2_with fail
      refine (zero20 _ l l cs _ rC6 HCL hb).mono ?_
      rintro e w7 ⟨rfl, rfl⟩
      go_wp2_with fail
      refine (full19 _ l l n cs _ rC6 HCL HCO hb).mono ?_
      rintro e w8 ⟨rfl, b8⟩
      rw [L2.out]
      have rO8 := rO6.mono b8
      go_wp2_with fail
      refine (zero20 _ l c2 os _ rO8 hl hb).mono ?_
      rintro e w9 ⟨rfl, rfl⟩
      go_wp2
      go_ret
      have h7 := bwf.trans (h6.mono bwf.size)
      exact ⟨rfl, h7.trans (b8.mono h7.size)⟩

end Go.Proofs.Qxb6614246a.cnt
