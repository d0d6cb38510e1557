import Derived.Test.Qxb6608961aHexA
import Derived.Laws.OwnMore
import Derived.OneCell
namespace Go.Proofs.Qxb6608961a.hex
open Go.RowKit
set_option linter.unusedVariables false

/-- What the copy holds behind k rounds. -/
def part (zs : List Int) (k : Nat) : List Int := zs.take k ++ List.replicate (zs.length - k) 0

theorem part_zero (zs : List Int) : part zs 0 = List.replicate zs.length 0 := by simp [part]
theorem part_all (zs : List Int) : part zs zs.length = zs := by simp [part]
theorem part_length (zs : List Int) (k : Nat) (h : k ≤ zs.length) : (part zs k).length = zs.length := by simp [part]; omega
theorem part_succ (zs : List Int) (k : Nat) (h : k < zs.length) : (part zs k).set k (zs.getD k 0) = part zs (k + 1) := by
  apply List.ext_getElem?
  intro i
  simp only [part, List.getElem?_set, List.length_append, List.length_take, List.length_replicate, List.getElem?_append, List.getElem?_take, List.getElem?_replicate, List.getD]
  by_cases e : k = i
  · subst e
    simp [h, show min k zs.length = k by omega, show min (k + 1) zs.length = k + 1 by omega, show 0 < zs.length - k by omega]
  · rw [if_neg e]
    rcases Nat.lt_trichotomy i k with hi | hi | hi
    · simp [show i < min k zs.length by omega, show i < min (k + 1) zs.length by omega, hi, show i < k + 1 by omega]
    · omega
    · simp only [show ¬ i < min k zs.length by omega, show ¬ i < min (k + 1) zs.length by omega, if_false]
      have e1 : min k zs.length = k := by omega
      have e2 : min (k + 1) zs.length = k + 1 := by omega
      rw [e1, e2]
      by_cases hl : i < zs.length
      · rw [if_pos (by omega), if_pos (by omega)]
      · rw [if_neg (by omega), if_neg (by omega)]

theorem set_map_int (zs : List Int) (k : Nat) (z : Int) : (zs.map (Value.int .u8)).set k (.int .u8 z) = (zs.set k z).map (Value.int .u8) := by
  rw [List.map_set]

/-- 9: the copy. -/
theorem clone_nil (w : World) : Calls Try.prog 9 #[.slice none 0 0] w fun e w' => e = .returned (.slice none 0 0) ∧ w = w' := by
  have hq : ∀ (w : World) (a : Option Addr) (n c : Nat), (binOp .eql 22 (.slice a n c) (.slice none 0 0)).run Try.prog w = .ok (.bool a.isNone) w := fun w a n c => Lib.run_eql_slice_nil w _ _ a n c 0 0 Try.underlying22
  go_enter Try.func9, Try.ntmps9
  go_wp2
  go_ret
  exact ⟨rfl, rfl⟩

set_option maxHeartbeats 400000 in
theorem clone_some (x : Addr) (cap : Nat) (zs : List Int) (w : World) (hr : Rd w (some x) zs) (hlen : zs.length ≤ 1073741824) :
    Calls Try.prog 9 #[.slice (some x) zs.length cap] w fun e w' => e = .returned (.slice (some ⟨w.heap.size, 0, none⟩) zs.length zs.length) ∧
      w'.ownsRow w.heap.size 5 1 (.slice (some ⟨w.heap.size, 0, none⟩) zs.length zs.length) zs.length (zs.map (Value.int .u8)) ∧ Below w.heap.size w w' := by
  obtain ⟨i0, hi, hz0, hz1, hz2⟩ := info_parts info5
  have hq : ∀ (w : World) (a : Option Addr) (n c : Nat), (binOp .eql 22 (.slice a n c) (.slice none 0 0)).run Try.prog w = .ok (.bool a.isNone) w := fun w a n c => Lib.run_eql_slice_nil w _ _ a n c 0 0 Try.underlying22
  rcases Nat.eq_zero_or_pos zs.length with h0 | hpos
  · have hnil : zs = [] := List.eq_nil_of_length_eq_zero h0
    subst hnil
    clear hr
    simp only [List.length_nil]
    go_enter Try.func9, Try.ntmps9
    go_wp2_with (at_make; refine wpList_make_full _ rfl _ _ 22 rfl w.heap.size 5 i0 _ 1 Try.underlying22 hi hz0 hz1 _ _ _ _ 0 rfl rfl rfl rfl (by omega) (by unfold maxLen; omega) (Nat.le_refl _) ?_)
    intro w1 hown hgrow
    go_wp2
    refine wp_loop_rounds 1 ?_
    rw [rounds_succ]
    go_wp2
    go_ret
    exact ⟨rfl, by simpa [toList_madeCells_one] using hown, (Below.refl _ _).grown hgrow (Nat.le_refl _) (fun k h => by cases h)⟩
  · rcases hr with rfl | ⟨b, off, hx, hc⟩
    · simp at hpos
    obtain rfl := Option.some.inj hx
    have hb : b < w.heap.size := World.block_lt_of_cell? w _ (hc 0 hpos)
    obtain ⟨n, hn⟩ : ∃ n, n = zs.length := ⟨_, rfl⟩
    rw [← hn] at hlen hpos hc ⊢
    have HN : Hid (n = zs.length) := hn
    clear hn
    go_enter Try.func9, Try.ntmps9
    go_wp2_with (at_make; refine wpList_make_full _ rfl _ _ 22 rfl w.heap.size 5 i0 _ 1 Try.underlying22 hi hz0 hz1 _ _ _ _ n rfl rfl rfl rfl (by rw [hz2]; omega) (by unfold maxLen; omega) (Nat.le_refl _) ?_)
    intro w1 hown hgrow
    have hown0 : w1.ownsRow w.heap.size 5 1 (.slice (some ⟨w.heap.size, 0, none⟩) n n) n ((part zs 0).map (Value.int .u8)) := by
      have e : (madeCells #[Value.int .u8 0] n).toList = (part zs 0).map (Value.int .u8) := by
        rw [part_zero, ← HN.out]; simp [toList_madeCells_one]
      rw [← e]; exact hown
    have hbel : Below w.heap.size w w1 := (Below.refl _ _).grown hgrow (Nat.le_refl _) (fun k h => by cases h)
    clear hown hgrow
    go_wp2
    go_loopw [4] (fun i wr => ∃ k : Nat, k ≤ n ∧ i = .int .i64 k ∧ wr.ownsRow w.heap.size 5 1 (.slice (some ⟨w.heap.size, 0, none⟩) n n) n ((part zs k).map (Value.int .u8)) ∧ Below w.heap.size w wr)
      (fun i _ => n - (intOf i).toNat)
    case atStart => exact ⟨0, Nat.zero_le _, rfl, hown0, hbel⟩
    case round =>
      obtain ⟨k, hk, rfl, hown, hb1⟩ := hrel
      clear hown0 hbel
      by_cases hlt : k < n
      · have hcx : wr.cell? ⟨b, off + k, none⟩ = some (.int .u8 (zs.getD k 0)) := (hb1.cell (by exact hb)).trans (hc k hlt)
        have hst := hown.stored k (.int .u8 (zs.getD k 0))
        have hpl := part_length zs k (by have := HN.out; omega)
        have hcd : wr.cell? ⟨w.heap.size, k, none⟩ = some (.int .u8 ((part zs k).getD k 0)) := by
          rw [hown.cellAt k (by omega)]
          simp [List.getD, show k < (part zs k).length by have := HN.out; omega]
        have hfz := hown.frozenAt k
        have hnext : Hid ((wr.setCell ⟨w.heap.size, k, none⟩ (.int .u8 (zs.getD k 0))).ownsRow w.heap.size 5 1 (.slice (some ⟨w.heap.size, 0, none⟩) n n) n ((part zs (k + 1)).map (Value.int .u8)) ∧ Below w.heap.size w (wr.setCell ⟨w.heap.size, k, none⟩ (.int .u8 (zs.getD k 0)))) := by
          refine ⟨?_, hb1.setCell (Nat.le_refl _) _⟩
          have := hst.1
          rw [set_map_int, part_succ zs k (by have := HN.out; omega)] at this
          exact this
        clear hst hpl hown
        go_wp2
        go_roundw
        case rel => exact ⟨k + 1, by omega, by go_num, hnext.out.1, hnext.out.2⟩
        case measure => simp [intOf]; omega
      · have e : k = n := by omega
        subst e
        go_wp2
        go_ret
        refine ⟨rfl, ?_, hb1⟩
        have := HN.out
        rw [this, part_all] at hown
        rw [this]
        exact hown

end Go.Proofs.Qxb6608961a.hex
