import Derived.Test.Qxb6614246aCntB
import Derived.Laws.OwnMore
import Derived.OneCell
import Derived.Deep.RegionHeld3
import Derived.Deep.DrawnRows
namespace Go.Proofs.Qxb6614246a.cnt
open Go.RowKit
set_option linter.unusedVariables false
attribute [local go_sem ↓] Go.wp_at_zero Go.wp_at_succ

theorem info5 : (Try.prog.info? 5).map (fun i => (i.zero, i.size, i.bytes)) = some (some (.int .u8 0), 1, 1) := by kernel_rfl

/-- What the copy holds behind k rounds. -/
def part (zs : List Int) (k : Nat) : List Int := zs.take k ++ List.replicate (zs.length - k) 0

theorem part_zero (zs : List Int) : part zs 0 = List.replicate zs.length 0 := by simp [part]
theorem part_all (zs : List Int) : part zs zs.length = zs := by simp [part]
theorem part_length (zs : List Int) (k : Nat) (h : k ≤ zs.length) : (part zs k).length = zs.length := by simp [part]; omega
theorem part_succ (zs : List Int) (k : Nat) (h : k < zs.length) : (part zs k).set k (zs.getD k 0) = part zs (k + 1) := by
  apply List.ext_getElem?
  intro i
  simp only [part, List.getElem?_set, List.length_append, List.length_take, List.length_replicate, List.getElem?_append, List.getElem?_take, List.getElem?_replicate, List.getD]
  by_cases e : k = i
  · subst e
    simp [h, show min k zs.length = k by omega, show min (k + 1) zs.length = k + 1 by omega, show 0 < zs.length - k by omega]
  · rw [if_neg e]
    rcases Nat.lt_trichotomy i k with hi | hi | hi
    · simp [show i < min k zs.length by omega, show i < min (k + 1) zs.length by omega, hi, show i < k + 1 by omega]
    · omega
    · simp only [show ¬ i < min k zs.length by omega, show ¬ i < min (k + 1) zs.length by omega, if_false]
      have e1 : min k zs.length = k := by omega
      have e2 : min (k + 1) zs.length = k + 1 := by omega
      rw [e1, e2]
      by_cases hl : i < zs.length
      · rw [if_pos (by omega), if_pos (by omega)]
      · rw [if_neg (by omega), if_neg (by omega)]

theorem set_map_int (zs : List Int) (k : Nat) (z : Int) : (zs.map (Value.int .u8)).set k (.int .u8 z) = (zs.set k z).map (Value.int .u8) := by
  rw [List.map_set]

/-- 22: the copy. -/
theorem clone_nil (w : World) : Calls Try.prog 22 #[.slice none 0 0] w fun e w' => e = .returned (.slice none 0 0) ∧ w = w' := by
  have hq : ∀ (w : World) (a : Option Addr) (n c : Nat), (binOp .eql 36 (.slice a n c) (.slice none 0 0)).run Try.prog w = .ok (.bool a.isNone) w := fun w a n c => Lib.run_eql_slice_nil w _ _ a n c 0 0 Try.underlying36
  go_enter Try.func22, Try.ntmps22
  go_wp2
  go_ret
  exact ⟨rfl, rfl⟩

set_option maxHeartbeats 400000 in
theorem clone_some (x : Addr) (cap : Nat) (zs : List Int) (w : World) (hr : Rd w (some x) zs) (hlen : zs.length ≤ 1073741824) :
    Calls Try.prog 22 #[.slice (some x) zs.length cap] w fun e w' => e = .returned (.slice (some ⟨w.heap.size, 0, none⟩) zs.length zs.length) ∧
      w'.ownsRow w.heap.size 5 1 (.slice (some ⟨w.heap.size, 0, none⟩) zs.length zs.length) zs.length (zs.map (Value.int .u8)) ∧ Below w.heap.size w w' := by
  obtain ⟨i0, hi, hz0, hz1, hz2⟩ := info_parts info5
  have hq : ∀ (w : World) (a : Option Addr) (n c : Nat), (binOp .eql 36 (.slice a n c) (.slice none 0 0)).run Try.prog w = .ok (.bool a.isNone) w := fun w a n c => Lib.run_eql_slice_nil w _ _ a n c 0 0 Try.underlying36
  rcases Nat.eq_zero_or_pos zs.length with h0 | hpos
  · have hnil : zs = [] := List.eq_nil_of_length_eq_zero h0
    subst hnil
    clear hr
    simp only [List.length_nil]
    go_enter Try.func22, Try.ntmps22
    go_wp2_with (at_make; refine wpList_make_full _ rfl _ _ 36 rfl w.heap.size 5 i0 _ 1 Try.underlying36 hi hz0 hz1 _ _ _ _ 0 rfl rfl rfl rfl (by omega) (by unfold maxLen; omega) (Nat.le_refl _) ?_)
    intro w1 hown hgrow
    go_wp2
    refine wp_loop_rounds 1 ?_
    rw [rounds_succ]
    go_wp2
    go_ret
    exact ⟨rfl, by simpa [toList_madeCells_one] using hown, (Below.refl _ _).grown hgrow (Nat.le_refl _) (fun k h => by cases h)⟩
  · rcases hr with rfl | ⟨b, off, hx, hc⟩
    · simp at hpos
    obtain rfl := Option.some.inj hx
    have hb : b < w.heap.size := World.block_lt_of_cell? w _ (hc 0 hpos)
    obtain ⟨n, hn⟩ : ∃ n, n = zs.length := ⟨_, rfl⟩
    rw [← hn] at hlen hpos hc ⊢
    have HN : Hid (n = zs.length) := hn
    clear hn
    go_enter Try.func22, Try.ntmps22
    go_wp2_with (at_make; refine wpList_make_full _ rfl _ _ 36 rfl w.heap.size 5 i0 _ 1 Try.underlying36 hi hz0 hz1 _ _ _ _ n rfl rfl rfl rfl (by rw [hz2]; omega) (by unfold maxLen; omega) (Nat.le_refl _) ?_)
    intro w1 hown hgrow
    have hown0 : w1.ownsRow w.heap.size 5 1 (.slice (some ⟨w.heap.size, 0, none⟩) n n) n ((part zs 0).map (Value.int .u8)) := by
      have e : (madeCells #[Value.int .u8 0] n).toList = (part zs 0).map (Value.int .u8) := by
        rw [part_zero, ← HN.out]; simp [toList_madeCells_one]
      rw [← e]; exact hown
    have hbel : Below w.heap.size w w1 := (Below.refl _ _).grown hgrow (Nat.le_refl _) (fun k h => by cases h)
    clear hown hgrow
    go_wp2
    go_loopw [4] (fun i wr => ∃ k : Nat, k ≤ n ∧ i = .int .i64 k ∧ wr.ownsRow w.heap.size 5 1 (.slice (some ⟨w.heap.size, 0, none⟩) n n) n ((part zs k).map (Value.int .u8)) ∧ Below w.heap.size w wr)
      (fun i _ => n - (intOf i).toNat)
    case atStart => exact ⟨0, Nat.zero_le _, rfl, hown0, hbel⟩
    case round =>
      obtain ⟨k, hk, rfl, hown, hb1⟩ := hrel
      clear hown0 hbel
      by_cases hlt : k < n
      · have hcx : wr.cell? ⟨b, off + k, none⟩ = some (.int .u8 (zs.getD k 0)) := (hb1.cell (by exact hb)).trans (hc k hlt)
        have hst := hown.stored k (.int .u8 (zs.getD k 0))
        have hpl := part_length zs k (by have := HN.out; omega)
        have hcd : wr.cell? ⟨w.heap.size, k, none⟩ = some (.int .u8 ((part zs k).getD k 0)) := by
          rw [hown.cellAt k (by omega)]
          simp [List.getD, show k < (part zs k).length by have := HN.out; omega]
        have hfz := hown.frozenAt k
        have hnext : Hid ((wr.setCell ⟨w.heap.size, k, none⟩ (.int .u8 (zs.getD k 0))).ownsRow w.heap.size 5 1 (.slice (some ⟨w.heap.size, 0, none⟩) n n) n ((part zs (k + 1)).map (Value.int .u8)) ∧ Below w.heap.size w (wr.setCell ⟨w.heap.size, k, none⟩ (.int .u8 (zs.getD k 0)))) := by
          refine ⟨?_, hb1.setCell (Nat.le_refl _) _⟩
          have := hst.1
          rw [set_map_int, part_succ zs k (by have := HN.out; omega)] at this
          exact this
        clear hst hpl hown
        go_wp2
        go_roundw
        case rel => exact ⟨k + 1, by omega, by go_num, hnext.out.1, hnext.out.2⟩
        case measure => simp [intOf]; omega
      · have e : k = n := by omega
        subst e
        go_wp2
        go_ret
        refine ⟨rfl, ?_, hb1⟩
        have := HN.out
        rw [this, part_all] at hown
        rw [this]
        exact hown


theorem small14 (a : Option Addr) (l c : Nat) (n : Int) (w : World) (h : l ≤ 1048576) : Calls Try.prog 14 #[.int .i64 n, .slice a l c] w fun e w' => e = .returned (.bool true) ∧ w = w' := by
  go_enter Try.func14, Try.ntmps14
  go_wp2
  go_ret
  exact ⟨rfl, rfl⟩
theorem large14 (a : Option Addr) (l c : Nat) (n : Int) (w : World) (h : 1048576 < l) : Calls Try.prog 14 #[.int .i64 n, .slice a l c] w fun e w' => e = .returned (.bool false) ∧ w = w' := by
  go_enter Try.func14, Try.ntmps14
  go_wp2
  go_ret
  exact ⟨rfl, rfl⟩
theorem small21 (a : Option Addr) (l c : Nat) (n i : Int) (w : World) (h : l ≤ 1048576) : Calls Try.prog 21 #[.int .i64 n, .slice a l c, .int .i64 i] w fun e w' => e = .returned (.bool true) ∧ w = w' := by
  go_enter Try.func21, Try.ntmps21
  go_wp2
  go_ret
  exact ⟨rfl, rfl⟩
theorem large21 (a : Option Addr) (l c : Nat) (n i : Int) (w : World) (h : 1048576 < l) : Calls Try.prog 21 #[.int .i64 n, .slice a l c, .int .i64 i] w fun e w' => e = .returned (.bool false) ∧ w = w' := by
  go_enter Try.func21, Try.ntmps21
  go_wp2
  go_ret
  exact ⟨rfl, rfl⟩

/-- What zzCounterValid may answer. -/
def Vd (os : List Int) (n : Int) (e : Ending) : Prop := e = .returned (.bool false) ∨ (e = .returned (.bool true) ∧ 0 ≤ n ∧ n ≤ 8 * os.length ∧ ∀ j : Nat, n ≤ j → j < 8 * os.length → bitAt os j = false)

set_option maxRecDepth 100000 in
set_option maxHeartbeats 400000 in
theorem valid15 (a : Option Addr) (l c : Nat) (n : Int) (os : List Int) (w : World) (hr : Rd w a os) (hl : Hid (os.length = l)) (hb : l ≤ 1048576) :
    Calls Try.prog 15 #[.int .i64 n, .slice a l c] w fun e w' => Vd os n e ∧ ∃ m, w' = w.drewN m := by
  by_cases h0 : 0 ≤ n
  · by_cases h1 : n ≤ 8 * (l : Int)
    · obtain ⟨nn, rfl⟩ : ∃ nn : Nat, n = (nn : Int) := ⟨n.toNat, by omega⟩
      go_enter Try.func15, Try.ntmps15
      go_wp2
      go_loopw [5] (fun i wr => ∃ k : Nat, nn ≤ k ∧ k ≤ 8 * l ∧ i = .int .i64 k ∧ (∀ j, nn ≤ j → j < k → bitAt os j = false) ∧ ∃ m, wr = w.drewN m) (fun i _ => 8 * l - (intOf i).toNat)
      case atStart => exact ⟨nn, Nat.le_refl _, by omega, rfl, (fun j h1 h2 => by omega), 0, rfl⟩
      case round =>
        obtain ⟨k, hk0, hk, rfl, hall, m, rfl⟩ := hrel
        by_cases hlt : k < 8 * l
        · have hr' : Rd (w.drewN m) a os := hr
          cases hbit : bitAt os k with
          | true =>
            have HB : Hid (bitAt os k = true) := hbit
            clear hall hbit
            go_wp2_with (go_at_call 16; refine (bit16 a l c k os _ hr' hl hlt hb).mono ?_; rintro e w1 ⟨rfl, m1, rfl⟩; rw [HB.out])
            go_ret
            exact ⟨.inl rfl, _, rfl⟩
          | false =>
            have HB : Hid (bitAt os k = false) := hbit
            have hnx : Hid (∀ j, nn ≤ j → j < k + 1 → bitAt os j = false) := by
              intro j h1 h2
              by_cases e : j = k
              · rw [e]; exact hbit
              · exact hall j h1 (by omega)
            clear hall hbit
            go_wp2_with (go_at_call 16; refine (bit16 a l c k os _ hr' hl hlt hb).mono ?_; rintro e w1 ⟨rfl, m1, rfl⟩; rw [HB.out])
            go_roundw
            case rel => exact ⟨k + 1, by omega, by omega, by go_num, hnx.out, _, rfl⟩
            case measure => simp [intOf]; omega
        · have hfin : Hid (∀ j : Nat, nn ≤ j → j < 8 * os.length → bitAt os j = false) := fun j h2 h3 => hall j h2 (by have := hl.out; omega)
          clear hall
          go_wp2
          go_ret
          refine ⟨.inr ⟨rfl, by omega, by have := hl.out; omega, fun j h2 h3 => hfin.out j (by omega) h3⟩, m, rfl⟩
    · go_enter Try.func15, Try.ntmps15
      go_wp2
      go_ret
      exact ⟨.inl rfl, 0, rfl⟩
  · go_enter Try.func15, Try.ntmps15
    go_wp2
    go_ret
    exact ⟨.inl rfl, 0, rfl⟩

set_option maxRecDepth 100000 in
theorem zero20 (a : Option Addr) (l c : Nat) (os : List Int) (w : World) (hr : Rd w a os) (hl : Hid (os.length = l)) (hb : l ≤ 1048576) :
    Calls Try.prog 20 #[.slice a l c] w fun e w' => e = .returned (.bool (allz os)) ∧ w' = w := by
  go_enter Try.func20, Try.ntmps20
  go_wp2
  go_loop [3] (fun i => ∃ k : Nat, k ≤ l ∧ i = .int .i64 k ∧ ∀ j, j < k → os.getD j 0 = 0) (fun i => l - (intOf i).toNat)
  case atStart => exact ⟨0, Nat.zero_le _, rfl, fun j h => by omega⟩
  case round =>
    obtain ⟨k, hk, rfl, hall⟩ := hrel
    by_cases hlt : k < l
    · rcases hr with h | ⟨b, off, rfl, hc⟩
      · have := hl.out; rw [h] at this; simp at this; omega
      have c1 := hc k (by rw [hl.out]; exact hlt)
      obtain ⟨o, ho⟩ : ∃ o, os.getD k 0 = o := ⟨_, rfl⟩
      rw [ho] at c1
      by_cases hz : o = 0
      · have hnx : Hid (∀ j, j < k + 1 → os.getD j 0 = 0) := by
          intro j hj
          by_cases e : j = k
          · rw [e, ho, hz]
          · exact hall j (by omega)
        subst hz
        clear hall hc ho
        go_wp2
        go_round
        case rel => exact ⟨k + 1, by omega, by go_num, hnx.out⟩
        case measure => simp [intOf]; omega
      · have hf : Hid (allz os = false) := by
          show allz os = false
          cases e : allz os with
          | false => rfl
          | true =>
            unfold allz at e
            rw [List.all_eq_true] at e
            have := e o (by rw [← ho]; have := hl.out; simp [List.getD, show k < os.length by omega])
            simp at this
            exact absurd this hz
        have hne : (o != 0) = true := by simpa using hz
        clear hall hc ho hz
        go_wp2
        go_ret
        exact ⟨by rw [hf.out]; rfl, rfl⟩
    · have hf : Hid (allz os = true) := by
        show allz os = true
        unfold allz
        rw [List.all_eq_true]
        intro o ho
        obtain ⟨j, hj, rfl⟩ := List.getElem_of_mem ho
        have := hall j (by have := hl.out; omega)
        simp [List.getD, hj] at this
        simp [this]
      clear hall
      go_wp2
      go_ret
      exact ⟨by rw [hf.out]; rfl, rfl⟩

theorem new18 (a : Option Addr) (l c : Nat) (n : Int) (w : World) : Calls Try.prog 18 #[.int .i64 n, .slice a l c] w fun e w' => e = .returned (.agg #[.int .i64 n, .slice a l c]) ∧ Below w.heap.size w w' := by
  go_enter Try.func18, Try.ntmps18
  go_wp2
  exact bodyPost_ret (v := .agg #[.int .i64 n, .slice a l c]) (by simp [results, Try.results18, go_sem]) rfl ⟨rfl, (Below.refl _ _).alloc (Nat.le_refl _) _⟩

set_option maxRecDepth 100000 in
set_option maxHeartbeats 400000 in
theorem ones24 (a : Option Addr) (l c : Nat) (n : Int) (os : List Int) (w : World) (hr : Rd w a os) (hl : Hid (os.length = l)) (hok : Hid (Okay os)) (hb : l ≤ 1048576) :
    Calls Try.prog 24 #[.agg #[.int .i64 n, .slice a l c]] w fun e w' => e = .returned (.int .i64 (ones os l)) ∧ Below w.heap.size w w' := by
  go_enter Try.func24, Try.ntmps24
  go_wp2
  go_loop [3, 9] (fun z i => ∃ k : Nat, k ≤ l ∧ i = .int .i64 k ∧ z = .int .i64 (ones os k)) (fun _ i => l - (intOf i).toNat)
  case atStart => exact ⟨0, Nat.zero_le _, rfl, rfl⟩
  case round =>
    obtain ⟨k, hk, rfl, rfl⟩ := hrel
    have b1 := (ones_bd os hok.out k).1
    have b2 := (ones_bd os hok.out k).2
    by_cases hlt : k < l
    · rcases hr with h | ⟨b, off, rfl, hc⟩
      · have := hl.out; rw [h] at this; simp at this; omega
      have c0 := hc k (by rw [hl.out]; exact hlt)
      obtain ⟨o, ho⟩ : ∃ o, os.getD k 0 = o := ⟨_, rfl⟩
      rw [ho] at c0
      have c1 : ∀ x, (w.alloc x).cell? ⟨b, off + k, none⟩ = some (.int .u8 o) := fun x => (World.cell?_alloc_past _ _ _ (World.block_lt_of_cell? _ _ c0)).trans c0
      have o0 : 0 ≤ o ∧ o ≤ 255 := by rw [← ho]; exact hok.out.at k
      have hnx : Hid (ones os (k + 1) = ones os k + Lib.pop8 o) := by show ones os (k + 1) = _; rw [← ho]; rfl
      have pb := pop_bd ⟨o.toNat, by omega⟩
      simp only [Int.toNat_of_nonneg o0.1] at pb
      obtain ⟨p0, p1⟩ := pb
      obtain ⟨o0, o1⟩ := o0
      clear hc ho c0
      go_wp2_with (go_at_call 28; refine (ones28 _ _ o0 o1).mono ?_; rintro e w1 ⟨rfl, rfl⟩)
      go_round
      case rel => exact ⟨k + 1, by omega, by go_num, by rw [hnx.out]⟩
      case measure => simp [intOf]; omega
    · have hek : l = k := by omega
      subst hek
      go_wp2
      go_ret
      exact ⟨rfl, (Below.refl _ _).alloc (Nat.le_refl _) _⟩

end Go.Proofs.Qxb6614246a.cnt
