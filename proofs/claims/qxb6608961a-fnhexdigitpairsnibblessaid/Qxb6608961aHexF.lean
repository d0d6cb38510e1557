import Derived.Test.Qxb6608961aHexE
namespace Go.Proofs.Qxb6608961a.hex
open Go.RowKit
set_option linter.unusedVariables false
attribute [local go_sem ↓] Go.wp_at_zero Go.wp_at_succ

/-- An append within the capacity, as a step of a region that draws its order. -/
theorem step_append_fits {P : Program} (w : World) {ops : Array Oper} {o : Oper} {a : Act} {K : Act → World → Prop} {Q : Exit → Act → World → Prop} {E : Prop}
    (hg : o.guard = none) (s x : Operand) (t : TypeId) (hop : o.op = Op.call { callee := Callee.builtin Builtin.append, args := #[s, x], argTypes := #[t, t] })
    (base : Nat) (e : TypeId) (i : TypeInfo) (size : Nat) (h1 : P.underlying t = some (.slice e)) (h2 : P.info? e = some i) (h4 : i.size = size)
    (g k cap : Nat) (xs : List Value) (hs : a.eval s = .slice (some ⟨g, 0, none⟩) k cap) (hown : w.ownsRow base e size (.slice (some ⟨g, 0, none⟩) k cap) k xs) (ad : Addr) (m c : Nat) (news : List Value) (hx : a.eval x = .slice (some ad) m c) (hn : news.length = m * size)
    (hc : ∀ j u, news[j]? = some u → w.cell? (ad.add j) = some u) (h1c : ∀ u ∈ news, u.oneCell' = true) (b1 : k + m ≤ cap)
    (hK : ∀ w', w'.ownsRow base e size (.slice (some ⟨g, 0, none⟩) (k + m) cap) (k + m) (xs ++ news) → w.grownBy w' (some g) → K (a.put o.dst (.slice (some ⟨g, 0, none⟩) (k + m) cap)) w') :
    if Region.wanted o (yielded ops a.tmps) = true then Oper.wp P o a w K Q else E := by
  have hw : Region.wanted o (yielded ops a.tmps) = true := by simp [Region.wanted, hg]
  rw [if_pos hw]
  obtain ⟨w', hrun, r1, r2⟩ := run_append_fits (P := P) w base t o.type e i size h1 h2 h4 g k cap xs hown ad m c news hn hc h1c b1
  unfold Oper.wp
  simp [execOp, hop, resolve, invoke, builtin, hs, hx, hrun, Result.andThen]
  exact hK w' r1 r2

set_option maxRecDepth 100000 in
/-- The early ways out. -/
theorem early3 (a0 a3 : Option Addr) (l0 c0 l3 c3 : Nat) (dg hi : Int) (w : World) (m0 : l0 ≤ 9223372036854775807) (m3 : l3 ≤ 9223372036854775807)
    (h : ¬ (l0 + l3 ≤ 1048576 ∧ l0 ≤ 524288 ∧ l3 ≤ 524288 ∧ 0 ≤ dg ∧ dg ≤ 1073741824 ∧ hi ≤ 15)) :
    Calls Try.prog 3 #[.slice a0 l0 c0, .int .i64 dg, .int .u8 hi, .slice a3 l3 c3] w fun e w' => e = .returned (.bool true) ∧ Below w.heap.size w w' := by
  by_cases hs : l0 + l3 ≤ 1048576
  · by_cases e0 : l0 ≤ 524288
    · by_cases e3 : l3 ≤ 524288
      · by_cases d0 : 0 ≤ dg
        · by_cases d1 : dg ≤ 1073741824
          · have hh : 15 < hi := by omega
            clear h
            go_enter Try.func3, Try.ntmps3
            go_wp2_with (go_at_call 7; refine (small7 _ _ _ _ _ _ _ _ _ hs).mono ?_; rintro e w' ⟨rfl, rfl⟩)
            go_ret
            exact ⟨rfl, Below.refl _ _⟩
          · have hh : 1073741824 < dg := by omega
            clear h
            go_enter Try.func3, Try.ntmps3
            go_wp2_with (go_at_call 7; refine (small7 _ _ _ _ _ _ _ _ _ hs).mono ?_; rintro e w' ⟨rfl, rfl⟩)
            go_ret
            exact ⟨rfl, Below.refl _ _⟩
        · have hh : dg < 0 := by omega
          clear h
          go_enter Try.func3, Try.ntmps3
          go_wp2_with (go_at_call 7; refine (small7 _ _ _ _ _ _ _ _ _ hs).mono ?_; rintro e w' ⟨rfl, rfl⟩)
          go_ret
          exact ⟨rfl, Below.refl _ _⟩
      · clear h
        go_enter Try.func3, Try.ntmps3
        go_wp2_with (go_at_call 7; refine (small7 _ _ _ _ _ _ _ _ _ hs).mono ?_; rintro e w' ⟨rfl, rfl⟩)
        go_ret
        exact ⟨rfl, Below.refl _ _⟩
    · clear h
      go_enter Try.func3, Try.ntmps3
      go_wp2_with (go_at_call 7; refine (small7 _ _ _ _ _ _ _ _ _ hs).mono ?_; rintro e w' ⟨rfl, rfl⟩)
      go_ret
      exact ⟨rfl, Below.refl _ _⟩
  · clear h
    go_enter Try.func3, Try.ntmps3
    go_wp2_with (go_at_call 7; refine (large7 _ _ _ _ _ _ _ _ _ m0 m3 hs).mono ?_; rintro e w' ⟨rfl, rfl⟩)
    go_ret
    exact ⟨rfl, Below.refl _ _⟩

set_option maxHeartbeats 2000000 in
set_option maxRecDepth 100000 in
theorem core3 (a0 a3 : Option Addr) (l0 c0 l3 c3 : Nat) (out vs : List Int) (dg hi : Int) (w : World) (r0 : Rd w a0 out) (r3 : Rd w a3 vs) (HN : Hid (a0 = none → out = [] ∧ c0 = 0))
    (L0 : Hid (out.length = l0)) (L3 : Hid (vs.length = l3)) (hv0 : Hid (∀ x ∈ vs, 0 ≤ x)) (hs : l0 + l3 ≤ 1048576) (e0 : l0 ≤ 524288) (e3 : l3 ≤ 524288) (d0 : 0 ≤ dg) (d1 : dg ≤ 1073741824) (hh0 : 0 ≤ hi) (hh1 : hi ≤ 15) :
    Calls Try.prog 3 #[.slice a0 l0 c0, .int .i64 dg, .int .u8 hi, .slice a3 l3 c3] w fun e w' => e = .returned (.bool true) ∧ Below w.heap.size w w' := by
  obtain ⟨i0, hi0, hz0, hz1, hz2⟩ := info_parts info5
  go_enter Try.func3, Try.ntmps3
  go_wp2_with (go_at_call 7; refine (small7 _ _ _ _ _ _ _ _ _ hs).mono ?_; rintro e w' ⟨rfl, rfl⟩)
  go_loop [9] (fun i => ∃ k : Nat, k ≤ l3 ∧ i = .int .i64 k ∧ ∀ x ∈ vs.take k, x ≤ 15) (fun i => l3 - (intOf i).toNat)
  case atStart => exact ⟨0, Nat.zero_le _, rfl, by simp⟩
  case round =>
    obtain ⟨k, hk, rfl, hle⟩ := hrel
    by_cases hlt : k < l3
    · rcases r3 with h | ⟨b, off, rfl, hc⟩
      · have := L3.out; rw [h] at this; simp at this; omega
      have hck := hc k (by rw [L3.out]; exact hlt)
      obtain ⟨y, hy⟩ : ∃ y, y = vs.getD k 0 := ⟨_, rfl⟩
      rw [← hy] at hck
      have HY : Hid (y = vs.getD k 0) := hy
      clear hy
      by_cases hx : y ≤ 15
      · have hnext : Hid (∀ x ∈ vs.take (k + 1), x ≤ 15) := by
          intro x hx'
          rw [take_snoc vs k (by rw [L3.out]; exact hlt)] at hx'
          rcases List.mem_append.1 hx' with h | h
          · exact hle x h
          · simp only [List.mem_singleton] at h; rw [h, ← HY.out]; exact hx
        clear hle hc
        go_wp2
        go_round
        case rel => exact ⟨k + 1, by omega, by go_num, hnext.out⟩
        case measure => simp [intOf]; omega
      · clear hle hc
        go_wp2
        go_ret
        exact ⟨rfl, Below.refl _ _⟩
    · have hvs : Hid (∀ x ∈ vs, 0 ≤ x ∧ x ≤ 15) := fun x hx => ⟨hv0.out x hx, hle x (by rw [List.take_of_length_le (by rw [L3.out]; omega)]; exact hx)⟩
      clear hle
      go_wp2_with (go_at_call 9; refine (clone_len a0 c0 l0 out _ r0 HN.out L0.out (by omega)).mono ?_; rintro e w1 ⟨a1, c1, rfl, own1, b1⟩)
      go_wp2_with (go_at_call 8; refine (new8 _ _ _ _ _ _).mono ?_; rintro e w2 ⟨rfl, rfl⟩)
      have hD0 : Dec (w1.alloc (.cells (cells7 (.slice a1 l0 c1) dg hi) 43)) w.heap.size w1.heap.size (.slice a1 l0 c1) dg hi out := Dec.new (by rw [L0.out]; exact own1) b1.size
      have hB0 : Below w.heap.size w (w1.alloc (.cells (cells7 (.slice a1 l0 c1) dg hi) 43)) := b1.alloc b1.size _
      clear own1
      go_loopw [11] (fun i wr => ∃ k : Nat, k ≤ l3 ∧ i = .int .i64 k ∧ ∃ v, Dec wr w.heap.size w1.heap.size v ((St.mk out dg hi).runs (vs.take k)).dg ((St.mk out dg hi).runs (vs.take k)).hi ((St.mk out dg hi).runs (vs.take k)).out ∧ Below w.heap.size w wr) (fun i _ => l3 - (intOf i).toNat)
      case atStart => exact ⟨0, Nat.zero_le _, rfl, _, hD0, hB0⟩
      case round =>
        obtain ⟨k, hk, rfl, v, hD, hB⟩ := hrel
        clear hD0 hB0
        by_cases hlt : k < l3
        · rcases r3 with h | ⟨b, off, ha3, hc⟩
          · have := L3.out; rw [h] at this; simp at this; omega
          subst ha3
          have hck := cell_later hB (hc k (by rw [L3.out]; exact hlt))
          obtain ⟨y, hy⟩ : ∃ y, y = vs.getD k 0 := ⟨_, rfl⟩
          obtain ⟨s, hs'⟩ : ∃ s, s = (St.mk out dg hi).runs (vs.take k) := ⟨_, rfl⟩
          have hnx : Hid ((St.mk out dg hi).runs (vs.take (k + 1)) = s.step y) := by rw [hs', hy]; exact runs_take _ _ _ (by rw [L3.out]; exact hlt)
          have hsd : s.dg = dg + k := by rw [hs', St.runs_dg]; simp; have := L3.out; omega
          have hsl : s.out.length ≤ l0 + k := by rw [hs']; have := (St.mk out dg hi).runs_len (vs.take k); simp at this; have := L0.out; omega
          have b0 : 0 ≤ s.dg := by omega
          have b2 : s.dg ≤ 4294967296 := by omega
          have b3 : s.out.length ≤ 4294967296 := by omega
          rw [← hy] at hck
          rw [← hs'] at hD
          clear hy hs' hsd hsl hc
          go_wp2_with (go_at_call 10; refine (digit10 _ _ _ s y _ hD b0 b2 b3).mono ?_; rintro e w2 ⟨rfl, v', hD', hb'⟩)
          go_roundw
          case rel => exact ⟨k + 1, by omega, by go_num, v', by rw [hnx.out]; exact hD', hB.trans hb'⟩
          case measure => simp [intOf]; omega
        · obtain ⟨s, hs'⟩ : ∃ s, s = (St.mk out dg hi).runs vs := ⟨_, rfl⟩
          have HS : Hid (s = (St.mk out dg hi).runs vs) := hs'
          rw [List.take_of_length_le (by rw [L3.out]; omega), ← hs'] at hD
          clear hs'
          have hek : l3 = k := by omega
          subst hek
          obtain ⟨aG, cG, hvG⟩ := own_slice hD.row
          subst hvG
          obtain ⟨P, hP⟩ : ∃ P, P = pre dg hi := ⟨_, rfl⟩
          have HP : Hid (P = pre dg hi) := hP
          have hPl : P.length ≤ 1 := by rw [hP]; unfold pre; split <;> simp
          have hodd2 : Hid ((dg % 2 == 1) = true ∧ P = [hi] ∨ (dg % 2 == 1) = false ∧ P = []) := by
            rw [hP]; unfold pre
            by_cases e : dg % 2 = 1
            · exact .inl (by simp [e])
            · exact .inr (by simp [e])
          clear hP
          rcases hodd2.out with ⟨hpar, hP⟩ | ⟨hpar, hP⟩
          all_goals
            clear hodd2
            have HPP : Hid (P = _) := hP
            clear hP
            go_wp2_with (first | (go_at_call 11; refine (state11 _ _ _ s _ hD).mono ?_; rintro e w2 ⟨rfl, hsame⟩) | (at_make; refine wpList_make_own _ rfl _ _ 22 rfl w2.heap.size 5 i0 _ 1 Try.underlying22 hi0 hz0 hz1 _ _ _ (l3 + 1) rfl rfl (by omega) (by rw [hz2]; omega) (by unfold maxLen; omega) (Nat.le_refl _) ?_; intro w3 own3 grow3) | (at_builtin; refine wpList_append_fits _ rfl _ _ 22 rfl w2.heap.size 5 i0 1 Try.underlying22 hi0 hz1 _ _ _ _ rfl (own3.alloc _) ⟨w3.heap.size, 0, none⟩ 1 1 [.int .u8 hi] rfl rfl (cell_one_new _ _ _) (by simp [Value.oneCell']) (by omega) ?_; intro w4 own4 grow4))
            have b3 : Below w2.heap.size w2 w3 := (Below.refl _ _).grown grow3 (Nat.le_refl _) (fun k h => by cases h)
            have hB2 : Below w.heap.size w w2 := hB.trans (hsame.2.mono hB.size)
            have rG : Rd w2 aG s.out := (Rd.of_own hD.row).2.mono hsame.2
            clear grow3 hsame hD hB
            go_loopw [15, 16] (fun q i wr => ∃ k : Nat, k ≤ l3 ∧ i = .int .i64 k ∧ q = .slice (some ⟨w2.heap.size, 0, none⟩) (P.length + k) (l3 + 1) ∧ wr.ownsRow w2.heap.size 5 1 (.slice (some ⟨w2.heap.size, 0, none⟩) (P.length + k) (l3 + 1)) (P.length + k) ((P ++ vs.take k).map (Value.int .u8)) ∧ Below w2.heap.size w2 wr) (fun _ i _ => l3 - (intOf i).toNat)
            case atStart =>
              refine ⟨0, Nat.zero_le _, rfl, by rw [HPP.out]; rfl, ?_⟩
              rw [HPP.out]
              first
                | exact ⟨own4, ((b3.alloc b3.size _).grown grow4 (by have := b3.size; simp; omega) (fun k h => by cases h; exact Nat.le_refl _))⟩
                | exact ⟨own3, b3⟩
            case round =>
              obtain ⟨k, hk, rfl, rfl, hown, hB⟩ := hrel
              clear own3 b3
              try clear own4 grow4
              by_cases hlt : k < l3
              · rcases r3 with h | ⟨b, off, ha3, hc⟩
                · have := L3.out; rw [h] at this; simp at this; omega
                subst ha3
                have hck := cell_later (hB2.trans (hB.mono hB2.size)) (hc k (by rw [L3.out]; exact hlt))
                obtain ⟨y, hy⟩ : ∃ y, y = vs.getD k 0 := ⟨_, rfl⟩
                rw [← hy] at hck
                have hnx : Hid (vs.take (k + 1) = vs.take k ++ [y]) := by rw [hy]; exact take_snoc _ _ (by rw [L3.out]; exact hlt)
                clear hy hc
                go_wp2_with (at_builtin; refine wpList_append_fits _ rfl _ _ 22 rfl w2.heap.size 5 i0 1 Try.underlying22 hi0 hz1 _ _ _ _ rfl (hown.alloc _) ⟨wr.heap.size, 0, none⟩ 1 1 [.int .u8 y] rfl rfl (cell_one_new _ _ _) (by simp [Value.oneCell']) (by omega) ?_; intro w5 own5 grow5)
                go_roundw
                case rel =>
                  refine ⟨k + 1, by omega, by go_num, rfl, ?_, (hB.alloc hB.size _).grown grow5 (by have := hB.size; simp; omega) (fun k h => by cases h; exact Nat.le_refl _)⟩
                  rw [hnx.out, ← List.append_assoc, List.map_append]
                  exact own5
                case measure => simp [intOf]; omega
              · have hek : l3 = k := by omega
                subst hek
                rw [List.take_of_length_le (by rw [L3.out]; omega)] at hown
                obtain ⟨q, hq⟩ : ∃ q, q = P ++ vs := ⟨_, rfl⟩
                obtain ⟨Q, hQ⟩ : ∃ Q, Q = P.length + l3 := ⟨_, rfl⟩
                have hql : Hid (q.length = Q) := by show q.length = Q; rw [hq, hQ, List.length_append, L3.out]
                have HQ : Hid (q = pre dg hi ++ vs) := by show q = _; rw [hq, HP.out]
                have hQb : Q ≤ l3 + 1 := by omega
                rw [← hq, ← hQ] at hown
                have hcq : Hid (∀ j, j < Q → wr.cell? ⟨w2.heap.size, j, none⟩ = some (.int .u8 (q.getD j 0))) := by
                  intro j hj
                  rw [hown.cellAt j (by omega)]
                  have := hql.out
                  simp [List.getD, show j < q.length by omega]
                have hBw : Below w.heap.size w wr := hB2.trans (hB.mono hB2.size)
                have rGr : Rd wr aG s.out := rG.mono hB
                obtain ⟨w5, hw5⟩ : ∃ w5, w5 = wr := ⟨_, rfl⟩
                subst hw5
                clear hown hB hB2 rG hq
                have hQ' : Hid (Q = P.length + l3) := hQ
                obtain ⟨plaw1, plaw2, plaw3, plaw4⟩ := runs_law out dg hi vs d0 hh0 hh1 hvs.out
                have hlaw : Hid (s.out = out ++ prs q (Q / 2) ∧ s.hi = pend hi q ∧ (∀ x ∈ q, 0 ≤ x ∧ x ≤ 15) ∧ s.dg = dg + l3) := by
                  refine ⟨?_, ?_, ?_, ?_⟩
                  · rw [HS.out, plaw1, ← HQ.out, hql.out]
                  · rw [HS.out, plaw2, ← HQ.out]
                  · rw [HQ.out]; exact plaw4
                  · rw [HS.out, St.runs_dg, L3.out]
                clear plaw1 plaw2 plaw3 plaw4
                rw [← hQ]
                clear hQ
                go_wp2_with (at_make; refine wpList_make_own _ rfl _ _ 22 rfl w5.heap.size 5 i0 _ 1 Try.underlying22 hi0 hz0 hz1 _ _ _ (l0 + Q / 2) rfl rfl (by omega) (by rw [hz2]; omega) (by unfold maxLen; omega) (Nat.le_refl _) ?_; intro w6 own6 grow6)
                have b6 : Below w5.heap.size w5 w6 := (Below.refl _ _).grown grow6 (Nat.le_refl _) (fun k h => by cases h)
                clear grow6
                go_loopw [17, 18] (fun v i wr => ∃ k : Nat, k ≤ l0 ∧ i = .int .i64 k ∧ v = .slice (some ⟨w5.heap.size, 0, none⟩) k (l0 + Q / 2) ∧ wr.ownsRow w5.heap.size 5 1 (.slice (some ⟨w5.heap.size, 0, none⟩) k (l0 + Q / 2)) k ((out.take k).map (Value.int .u8)) ∧ Below w5.heap.size w5 wr) (fun _ i _ => l0 - (intOf i).toNat)
                case atStart => exact ⟨0, Nat.zero_le _, rfl, rfl, own6, b6⟩
                case round =>
                  obtain ⟨k, hk, rfl, rfl, hown, hB⟩ := hrel
                  clear own6 b6
                  by_cases hlt : k < l0
                  · rcases r0 with h | ⟨b, off, ha0, hc⟩
                    · have := L0.out; rw [h] at this; simp at this; omega
                    subst ha0
                    have hck := cell_later (hBw.trans (hB.mono hBw.size)) (hc k (by rw [L0.out]; exact hlt))
                    obtain ⟨y, hy⟩ : ∃ y, y = out.getD k 0 := ⟨_, rfl⟩
                    rw [← hy] at hck
                    have hnx : Hid (out.take (k + 1) = out.take k ++ [y]) := by rw [hy]; exact take_snoc _ _ (by rw [L0.out]; exact hlt)
                    clear hy hc
                    go_wp2_with (at_builtin; refine wpList_append_fits _ rfl _ _ 22 rfl w5.heap.size 5 i0 1 Try.underlying22 hi0 hz1 _ _ _ _ rfl (hown.alloc _) ⟨wr.heap.size, 0, none⟩ 1 1 [.int .u8 y] rfl rfl (cell_one_new _ _ _) (by simp [Value.oneCell']) (by omega) ?_; intro w7 own7 grow7)
                    go_roundw
                    case rel =>
                      refine ⟨k + 1, by omega, by go_num, rfl, ?_, (hB.alloc hB.size _).grown grow7 (by have := hB.size; simp; omega) (fun k h => by cases h; exact Nat.le_refl _)⟩
                      rw [hnx.out, List.map_append]
                      exact own7
                    case measure => simp [intOf]; omega
                  · have hek : l0 = k := by omega
                    subst hek
                    rw [List.take_of_length_le (by rw [L0.out]; omega)] at hown
                    go_wp2
                    go_loopw [17, 19] (fun v i wr => ∃ j : Nat, 2 * j ≤ Q ∧ i = .int .i64 ((2 * j : Nat) : Int) ∧ v = .slice (some ⟨w5.heap.size, 0, none⟩) (l0 + j) (l0 + Q / 2) ∧ wr.ownsRow w5.heap.size 5 1 (.slice (some ⟨w5.heap.size, 0, none⟩) (l0 + j) (l0 + Q / 2)) (l0 + j) ((out ++ prs q j).map (Value.int .u8)) ∧ Below w5.heap.size w5 wr) (fun _ i _ => Q - (intOf i).toNat)
                    case atStart => exact ⟨0, Nat.zero_le _, rfl, rfl, by simpa [prs] using hown, hB⟩
                    case round =>
                      obtain ⟨j, hj, rfl, rfl, hown7, hB7⟩ := hrel
                      clear hown hB
                      obtain ⟨t, ht⟩ : ∃ t, t = 2 * j := ⟨_, rfl⟩
                      rw [← ht] at hj ⊢
                      have HT : Hid (t = 2 * j) := ht
                      clear ht
                      by_cases hlt : t + 1 < Q
                      · have hc1 := cell_later hB7 (hcq.out t (by omega))
                        have hc2 := cell_later hB7 (hcq.out (t + 1) (by omega))
                        obtain ⟨y, hy⟩ : ∃ y, y = q.getD t 0 := ⟨_, rfl⟩
                        obtain ⟨z, hz⟩ : ∃ z, z = q.getD (t + 1) 0 := ⟨_, rfl⟩
                        have hyb : 0 ≤ y ∧ y ≤ 15 := hlaw.out.2.2.1 y (by rw [hy]; have := hql.out; simp [List.getD, show t < q.length by omega])
                        have hzb : 0 ≤ z ∧ z ≤ 15 := hlaw.out.2.2.1 z (by rw [hz]; have := hql.out; simp [List.getD, show t + 1 < q.length by omega])
                        obtain ⟨y0, y1⟩ := hyb
                        obtain ⟨z0, z1⟩ := hzb
                        rw [← hy] at hc1
                        rw [← hz] at hc2
                        have hnx : Hid (prs q (j + 1) = prs q j ++ [y * 16 + z]) := by
                          show prs q (j + 1) = _
                          rw [hy, hz, HT.out]; rfl
                        clear hy hz
                        have hi1 : (t : Int) < (Q : Int) := by omega
                        have hi2 : (t : Int) + 1 < (Q : Int) := by omega
                        have wr1 : IntKind.i64.wrap ((t : Int) + 1) = (t : Int) + 1 := IntWalk.i64_in _ ⟨by omega, by omega⟩
                        have wr2 : ((t : Int) + 1).toNat = t + 1 := by omega
                        have wr3 : IntKind.u8.wrap (y * 16) = y * 16 := IntWalk.u8_in _ ⟨by omega, by omega⟩
                        have wr4 : IntKind.u8.wrap (y * 16 + z) = y * 16 + z := IntWalk.u8_in _ ⟨by omega, by omega⟩
                        have hi3 : (0 : Int) ≤ (t : Int) + 1 := by omega
                        have al1 : ∀ o, (wr.alloc o).cell? ⟨w2.heap.size, t, none⟩ = some (.int .u8 y) := fun o => (World.cell?_alloc_past _ _ _ (World.block_lt_of_cell? _ _ hc1)).trans hc1
                        go_wp2
                        go_region_law ((refine step_append_fits _ (by rfl) _ _ 22 (by rfl) w5.heap.size 5 i0 1 Try.underlying22 hi0 hz1 _ _ _ _ (by rfl) ((hown7.alloc _).drew) ⟨wr.heap.size, 0, none⟩ 1 1 [.int .u8 (y * 16 + z)] (by rfl) (by rfl) (cell_one_new wr _ 5) (by simp [Value.oneCell']) (by have := HT.out; omega) ?_; intro w8 own8 grow8))
                        all_goals
                          go_wp2
                          go_roundw
                          case rel =>
                            refine ⟨j + 1, by have := HT.out; omega, by have := HT.out; go_num, rfl, ?_, ((hB7.alloc hB7.size _).drew).grown grow8 (by have := hB7.size; simp; omega) (fun k h => by cases h; exact Nat.le_refl _)⟩
                            rw [hnx.out, ← List.append_assoc, List.map_append]
                            exact own8
                          case measure => simp [intOf]; omega
                      · have hjj : j = Q / 2 := by have := HT.out; omega
                        have hls := hlaw.out.1
                        rw [hjj, ← hls] at hown7
                        obtain ⟨hlen9, rW⟩ := Rd.of_own hown7
                        have rG9 := rGr.mono hB7
                        have hlen8 : s.out.length ≤ 1073741824 := by omega
                        have hdg : (s.dg == dg + (l3 : Int)) = true := by rw [hlaw.out.2.2.2]; simp
                        have hpd := hlaw.out.2.1
                        have hBf := hBw.trans (hB7.mono hBw.size)
                        have hlen9' : Hid (s.out.length = l0 + j) := by rw [hjj]; exact hlen9.symm
                        have hcs : Hid ((Q % 2 = 1 → wr.cell? ⟨w2.heap.size, Q - 1, none⟩ = some (.int .u8 s.hi)) ∧ (¬ Q % 2 = 1 → 2 ≤ Q → wr.cell? ⟨w2.heap.size, Q - 2, none⟩ = some (.int .u8 s.hi)) ∧ (¬ Q % 2 = 1 → ¬ 2 ≤ Q → s.hi = hi)) := by
                          rw [hpd]
                          unfold pend
                          rw [hql.out]
                          refine ⟨fun h => ?_, fun h h' => ?_, fun h h' => ?_⟩
                          · rw [if_pos h]; exact cell_later hB7 (hcq.out _ (by omega))
                          · rw [if_neg h, if_pos h']; exact cell_later hB7 (hcq.out _ (by omega))
                          · rw [if_neg h, if_neg h']
                        clear hown7 hls hlen9 hpd hcq rGr hjj
                        by_cases hp : Q % 2 = 1
                        · have g1 : ((Q : Int) % 2 == 1) = true := by simp; omega
                          have g2 : (0 : Int) ≤ (Q : Int) - 1 := by omega
                          have hc9 := hcs.out.1 hp
                          clear hp
                          go_wp2_with (go_at_call 12; refine (equal_len _ _ _ _ _ _ s.out _ rG9 rW rfl hlen9'.out hlen8).mono ?_; rintro e w9 ⟨rfl, hsm⟩)
                          go_ret
                          exact ⟨rfl, hBf.trans (hsm.2.mono hBf.size)⟩
                        · have g1 : ((Q : Int) % 2 == 1) = false := by simp; omega
                          by_cases hp2 : 2 ≤ Q
                          · have hc9 := hcs.out.2.1 hp hp2
                            clear hp
                            go_wp2_with (go_at_call 12; refine (equal_len _ _ _ _ _ _ s.out _ rG9 rW rfl hlen9'.out hlen8).mono ?_; rintro e w9 ⟨rfl, hsm⟩)
                            go_ret
                            exact ⟨rfl, hBf.trans (hsm.2.mono hBf.size)⟩
                          · have hc9 : (s.hi == hi) = true := by rw [hcs.out.2.2 hp hp2]; simp
                            clear hp
                            go_wp2_with (go_at_call 12; refine (equal_len _ _ _ _ _ _ s.out _ rG9 rW rfl hlen9'.out hlen8).mono ?_; rintro e w9 ⟨rfl, hsm⟩)
                            go_ret
                            exact ⟨rfl, hBf.trans (hsm.2.mono hBf.size)⟩

end Go.Proofs.Qxb6608961a.hex
