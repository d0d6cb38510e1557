import Derived.Test.Qxb6608961aChkB
namespace Go.Proofs.Qxb6608961a.chk
open Go.RowKit
set_option linter.unusedVariables false
attribute [local go_sem ↓] Go.wp_at_zero Go.wp_at_succ

theorem info3 : (Try.prog.info? 3).map (fun i => (i.zero, i.size, i.bytes)) = some (some (.int .i64 0), 1, 8) := by kernel_rfl
theorem info9 : (Try.prog.info? 9).map (fun i => (i.zero, i.size, i.bytes)) = some (some (.string ⟨#[]⟩), 1, 16) := by kernel_rfl
theorem info36 : (Try.prog.info? 36).map (fun i => (i.zero, i.size, i.bytes)) = some (some (.int .u32 0), 1, 4) := by kernel_rfl

abbrev Br := Int × ByteArray × Int
def rul (L : List Br) : List Value := L.map fun t => .int .i64 t.1
def fld (L : List Br) : List Value := L.map fun t => .string t.2.1
def idx (L : List Br) : List Value := L.map fun t => .int .i64 t.2.2

theorem own_slice {w : World} {B n : Nat} {e : TypeId} {size : Nat} {v : Value} {xs : List Value} (h : w.ownsRow B e size v n xs) : ∃ a c, v = .slice a n c := by
  rcases h.2 with ⟨rfl, rfl⟩ | ⟨g, cap, cur, rfl, _⟩
  · exact ⟨_, _, rfl⟩
  · exact ⟨_, _, rfl⟩

theorem take_snocL {α : Type} (L : List α) (k : Nat) (t : α) (h : L[k]? = some t) : L.take (k + 1) = L.take k ++ [t] := by
  rw [List.take_add_one, h]; rfl

theorem getL {α : Type} (L : List α) (k : Nat) (h : k < L.length) : ∃ t, L[k]? = some t := ⟨L[k], List.getElem?_eq_getElem h⟩

theorem map_ne {α β : Type} (L : List α) (f : α → β) (k : Nat) (h : k < L.length) : ¬ L.map f = [] := by
  intro e
  have h' : L.length = 0 := by simpa using congrArg List.length e
  omega

/-- A row that is being filled: the first k cells are there, the rest still zero. -/
def partL (z : Value) (cs : List Value) (k : Nat) : List Value := cs.take k ++ List.replicate (cs.length - k) z

theorem partL_zero (z : Value) (cs : List Value) : partL z cs 0 = List.replicate cs.length z := by simp [partL]
theorem partL_all (z : Value) (cs : List Value) : partL z cs cs.length = cs := by simp [partL]
theorem partL_length (z : Value) (cs : List Value) (k : Nat) (h : k ≤ cs.length) : (partL z cs k).length = cs.length := by simp [partL]; omega
theorem partL_succ (z : Value) (cs : List Value) (k : Nat) (u : Value) (h : cs[k]? = some u) : (partL z cs k).set k u = partL z cs (k + 1) := by
  have hk : k < cs.length := (List.getElem?_eq_some_iff.1 h).1
  apply List.ext_getElem?
  intro i
  simp only [partL, List.getElem?_set, List.length_append, List.length_take, List.length_replicate, List.getElem?_append, List.getElem?_take, List.getElem?_replicate]
  by_cases e : k = i
  · subst e
    simp [show min k cs.length = k by omega, show min (k + 1) cs.length = k + 1 by omega, show 0 < cs.length - k by omega, h]
  · rw [if_neg e]
    rcases Nat.lt_trichotomy i k with hi | hi | hi
    · simp [show i < min k cs.length by omega, show i < min (k + 1) cs.length by omega, hi, show i < k + 1 by omega]
    · omega
    · simp only [show ¬ i < min k cs.length by omega, show ¬ i < min (k + 1) cs.length by omega, if_false]
      have e1 : min k cs.length = k := by omega
      have e2 : min (k + 1) cs.length = k + 1 := by omega
      rw [e1, e2]
      by_cases hl : i < cs.length
      · rw [if_pos (by omega), if_pos (by omega)]
      · rw [if_neg (by omega), if_neg (by omega)]

/-- What is owned can be read. -/
theorem Rd.of_own {w : World} {B n c : Nat} {e : TypeId} {a : Option Addr} {cs : List Value} (h : w.ownsRow B e 1 (.slice a n c) n cs) : Rd w a cs := by
  rcases h.2 with ⟨h', h0⟩ | ⟨g, cap, cur, h', hb, hg, _⟩
  · exact .inl (List.eq_nil_of_length_eq_zero (by have := h.1; omega))
  · simp at h'
    obtain ⟨rfl, rfl⟩ := h'
    refine .inr ⟨g, 0, rfl, fun j u hj => ?_⟩
    have hl : j < cs.length := (List.getElem?_eq_some_iff.1 hj).1
    rw [Nat.zero_add, h.cellAt j (by have := h.1; omega), hj]

theorem flat_get (L : List Br) (k : Nat) (t : Br) (h : L[k]? = some t) : (flat L)[k * 3]? = some (.int .i64 t.1) ∧ (flat L)[k * 3 + 1]? = some (.string t.2.1) ∧ (flat L)[k * 3 + 2]? = some (.int .i64 t.2.2) := by
  induction L generalizing k with
  | nil => simp at h
  | cons s r ih =>
    have e : flat (s :: r) = [.int .i64 s.1, .string s.2.1, .int .i64 s.2.2] ++ flat r := rfl
    rw [e]
    cases k with
    | zero => simp at h; subst h; simp
    | succ k =>
      have := ih k (by simpa using h)
      refine ⟨?_, ?_, ?_⟩
      · rw [show (k + 1) * 3 = k * 3 + 3 by omega]; simpa using this.1
      · rw [show (k + 1) * 3 + 1 = k * 3 + 1 + 3 by omega]; simpa using this.2.1
      · rw [show (k + 1) * 3 + 2 = k * 3 + 2 + 3 by omega]; simpa using this.2.2

/-- Three rows of the call's own, one store into each. -/
theorem three {wr : World} {H1 H2 H3 m k : Nat} {x1 x2 x3 : List Value} {e1 e2 e3 : TypeId} {u1 u2 u3 : Value} (h12 : H1 < H2) (h23 : H2 < H3)
    (o1 : wr.ownsRow H1 e1 1 (.slice (some ⟨H1, 0, none⟩) m m) m x1) (o2 : wr.ownsRow H2 e2 1 (.slice (some ⟨H2, 0, none⟩) m m) m x2) (o3 : wr.ownsRow H3 e3 1 (.slice (some ⟨H3, 0, none⟩) m m) m x3) :
    let w' := ((wr.setCell ⟨H1, k, none⟩ u1).setCell ⟨H2, k, none⟩ u2).setCell ⟨H3, k, none⟩ u3
    w'.ownsRow H1 e1 1 (.slice (some ⟨H1, 0, none⟩) m m) m (x1.set k u1) ∧ w'.ownsRow H2 e2 1 (.slice (some ⟨H2, 0, none⟩) m m) m (x2.set k u2) ∧ w'.ownsRow H3 e3 1 (.slice (some ⟨H3, 0, none⟩) m m) m (x3.set k u3) := by
  have ne : ∀ a b : Nat, a ≠ b → (Value.slice (some ⟨a, 0, none⟩) m m).ownBlock ≠ some b := fun a b h e => by simp [Value.ownBlock] at e; exact h e
  refine ⟨?_, ?_, ?_⟩
  · exact ownsRow_setCell_other (ownsRow_setCell_other (o1.stored k u1).1 (ne _ _ (by simp; omega)) _) (ne _ _ (by simp; omega)) _
  · exact ownsRow_setCell_other ((ownsRow_setCell_other o2 (ne _ _ (by simp; omega)) _).stored k u2).1 (ne _ _ (by simp; omega)) _
  · exact ((ownsRow_setCell_other (ownsRow_setCell_other o3 (ne _ _ (by simp; omega)) _) (ne _ _ (by simp; omega)) _).stored k u3).1

theorem own_here {w : World} {B e n : Nat} {c : Nat} {xs : List Value} (o : w.ownsRow B e 1 (.slice (some ⟨B, 0, none⟩) n c) n xs) : B < w.heap.size := (o.lt B rfl).2

theorem own_cell {w : World} {B g n c k : Nat} {e : TypeId} {xs : List Value} (o : w.ownsRow B e 1 (.slice (some ⟨g, 0, none⟩) n c) n xs) (hk : k < n) : ∃ u, w.cell? ⟨g, k, none⟩ = some u := by
  rw [o.cellAt k (by omega)]
  exact ⟨_, List.getElem?_eq_getElem (by have := o.1; omega)⟩

set_option maxHeartbeats 2000000 in
set_option maxRecDepth 100000 in
/-- 15 -/
theorem door15 (a0 a1 a2 a3 : Option Addr) (n c0 c1 c2 l3 c3 : Nat) (L : List Br) (zs : List Int) (w : World)
    (h0 : Rd w a0 (rul L)) (h1 : Rd w a1 (fld L)) (h2 : Rd w a2 (idx L)) (h3 : Rd w a3 (zs.map (Value.int .u32))) (hn : Hid (L.length = n)) (h3n : Hid (zs.length = l3)) (bn : n ≤ 1048576) (b3 : l3 ≤ 1048576) :
    Calls Try.prog 15 #[.slice a0 n c0, .slice a1 n c1, .slice a2 n c2, .slice a3 l3 c3] w fun e w' => ∃ g1 g2 g3 : Nat,
      e = .returned (.tuple #[.slice (some ⟨g1, 0, none⟩) (fin L zs).length (fin L zs).length, .slice (some ⟨g2, 0, none⟩) (fin L zs).length (fin L zs).length, .slice (some ⟨g3, 0, none⟩) (fin L zs).length (fin L zs).length]) ∧
      Rd w' (some ⟨g1, 0, none⟩) (rul (fin L zs)) ∧ Rd w' (some ⟨g2, 0, none⟩) (fld (fin L zs)) ∧ Rd w' (some ⟨g3, 0, none⟩) (idx (fin L zs)) ∧ Below w.heap.size w w' := by
  obtain ⟨i5, hi5, hz50, hz51, hz52⟩ := info_parts info50
  go_enter Try.func15, Try.ntmps15
  go_wp2
  go_loopw [11, 12] (fun v i wr => ∃ k : Nat, k ≤ n ∧ i = .int .i64 k ∧ wr.ownsRow w.heap.size 50 3 v k (flat (L.take k)) ∧ Below w.heap.size w wr) (fun _ i _ => n - (intOf i).toNat)
  case atStart => exact ⟨0, Nat.zero_le _, rfl, World.ownsRow_nil _ _ _ _, Below.refl _ _⟩
  case round =>
    obtain ⟨k, hk, rfl, hown, hB⟩ := hrel
    by_cases hlt : k < n
    · obtain ⟨t, ht⟩ := getL L k (by rw [hn.out]; exact hlt)
      have hnl : ∀ f : Br → Value, ¬ L.map f = [] := fun f => map_ne L f k (by rw [hn.out]; exact hlt)
      rcases h0 with h | ⟨b0, o0, rfl, q0⟩
      · exact absurd h (hnl _)
      rcases h1 with h | ⟨b1, o1, rfl, q1⟩
      · exact absurd h (hnl _)
      rcases h2 with h | ⟨b2, o2, rfl, q2⟩
      · exact absurd h (hnl _)
      have p0 := q0 k (.int .i64 t.1) (by simp [rul, ht])
      have p1 := q1 k (.string t.2.1) (by simp [fld, ht])
      have p2 := q2 k (.int .i64 t.2.2) (by simp [idx, ht])
      have e0 := World.block_lt_of_cell? w _ p0
      have e1 := World.block_lt_of_cell? w _ p1
      have e2 := World.block_lt_of_cell? w _ p2
      have s0 := cell_later hB p0
      have s1 := cell_later hB p1
      have s2 := cell_later hB p2
      have hnx : Hid (flat (L.take (k + 1)) = flat (L.take k) ++ [.int .i64 t.1, .string t.2.1, .int .i64 t.2.2]) := by
        show flat (L.take (k + 1)) = _
        rw [take_snocL L k t ht, flat_snoc]
      have ne : ∀ b, b < w.heap.size → u11.ownBlock ≠ some b := fun b hb h => by have := (hown.lt b h).1; omega
      obtain ⟨r, s, x⟩ := t
      have ne0 := ne b0 e0
      have ne1 := ne b1 e1
      have ne2 := ne b2 e2
      have il : (k : Int) < (n : Int) := by omega
      have hsz := hB.size
      simp only at s0 s1 s2
      clear q0 q1 q2 p0 p1 p2 hnl ht ne
      go_wp2
      go_region_held3 (fun w' => w'.cell? ⟨b0, o0 + k, none⟩ = some (.int .i64 r) ∧ w'.cell? ⟨b1, o1 + k, none⟩ = some (.string s) ∧ w'.cell? ⟨b2, o2 + k, none⟩ = some (.int .i64 x))
        (first
          | go_keep
          | (go_split_ands
             refine ⟨?_, ?_, ?_⟩
             · (rw [hgrow.cell_far _ (by simp; omega) (Ne.symm ne0)]; assumption)
             · (rw [hgrow.cell_far _ (by simp; omega) (Ne.symm ne1)]; assumption)
             · (rw [hgrow.cell_far _ (by simp; omega) (Ne.symm ne2)]; assumption)))
        ((refine step_append_lies _ (by rfl) _ _ _ (by rfl) w.heap.size 50 i5 _ 3 32 Try.underlying45 hi5 hz50 hz51 hz52 rfl (by omega) u11 k _ (by rfl) ((hown.alloc _).drew) ⟨wr.heap.size, 0, none⟩ 1 1 [.int .i64 r, .string s, .int .i64 x] (by rfl) (by rfl) (World.news_of_block (cs := #[.int .i64 r, .string s, .int .i64 x]) (t := 50) (fr := (0, 0)) (heap_alloc_new wr _)) (by simp [Value.oneCell']) (by omega) (by unfold maxLen; omega) (by omega) (by simp; omega) (wr.heap.size + 1) (by simp) ?_; intro gg cap w1 hown1 hgrow hat hlt1))
      go_wp2
      go_roundw
      case rel =>
        refine ⟨k + 1, by omega, by go_num, by rw [hnx.out]; exact hown1, ((hB.alloc hsz _).drew).grown hgrow (by simp; omega) (fun j hj => (hown.lt j hj).1)⟩
      case measure => simp [intOf]; omega
    · have hek : n = k := by omega
      subst hek
      rw [List.take_of_length_le (by rw [hn.out]; omega)] at hown
      rw [← hn.out] at hown
      obtain ⟨i3, hi3, hz30, hz31, hz32⟩ := info_parts info3
      obtain ⟨i9, hi9, hz90, hz91, hz92⟩ := info_parts info9
      have r3 := h3.mono hB
      have hL : L.length ≤ 1073741824 := by rw [hn.out]; omega
      obtain ⟨m, hm⟩ : ∃ m, m = (fin L zs).length := ⟨_, rfl⟩
      have hmb : m ≤ n + 1 := by rw [hm]; have := fin_len L zs; have := hn.out; omega
      have HM : Hid (m = (fin L zs).length) := hm
      clear hm
      obtain ⟨wq, hwq⟩ : ∃ wq, wq = wr := ⟨_, rfl⟩
      subst hwq
      go_wp2_with (first | (go_at_call 19; refine (check19 w.heap.size u11 L a3 l3 c3 zs _ hown hB.size r3 h3n (by omega) hL).mono ?_; rintro e w1 ⟨v1, rfl, own1, bel1⟩; rw [← HM.out] at own1; obtain ⟨aV, cV, hv1⟩ := own_slice own1; subst hv1) | (at_make; refine wpList_make_full _ rfl (.tmp 44) (.tmp 44) 32 rfl w1.heap.size 3 i3 _ 1 Try.underlying32 hi3 hz30 hz31 _ _ _ _ m rfl rfl rfl rfl (by rw [hz32]; omega) (by unfold maxLen; omega) (Nat.le_refl _) ?_; intro w2 own2 grow2) | (at_make; refine wpList_make_full _ rfl (.tmp 47) (.tmp 47) 33 rfl w2.heap.size 9 i9 _ 1 Try.underlying33 hi9 hz90 hz91 _ _ _ _ m rfl rfl rfl rfl (by rw [hz92]; omega) (by unfold maxLen; omega) (Nat.le_refl _) ?_; intro w3 own3 grow3) | (at_make; refine wpList_make_full _ rfl (.tmp 50) (.tmp 50) 32 rfl w3.heap.size 3 i3 _ 1 Try.underlying32 hi3 hz30 hz31 _ _ _ _ m rfl rfl rfl rfl (by rw [hz32]; omega) (by unfold maxLen; omega) (Nat.le_refl _) ?_; intro w4 own4 grow4))
      obtain ⟨F, hF⟩ : ∃ F, F = fin L zs := ⟨_, rfl⟩
      have HF : Hid (F = fin L zs) := hF
      have hFm : Hid (F.length = m) := by show F.length = m; rw [HM.out, hF]
      rw [← hF] at own1
      clear hF
      have g2 : Below w1.heap.size w1 w2 := (Below.refl _ _).grown grow2 (Nat.le_refl _) (fun k h => by cases h)
      have g3 : Below w2.heap.size w2 w3 := (Below.refl _ _).grown grow3 (Nat.le_refl _) (fun k h => by cases h)
      have g4 : Below w3.heap.size w3 w4 := (Below.refl _ _).grown grow4 (Nat.le_refl _) (fun k h => by cases h)
      have lt1 := own_here own2
      have lt2 := own_here own3
      have e2 : (madeCells (Value.int .i64 0).cells (m * 1)).toList = partL (Value.int .i64 0) (rul F) 0 := by rw [Nat.mul_one]; show (madeCells #[Value.int .i64 0] m).toList = _; rw [partL_zero, toList_madeCells_one]; simp [rul, hFm.out]
      have e3 : (madeCells (Value.string ⟨#[]⟩).cells (m * 1)).toList = partL (Value.string ⟨#[]⟩) (fld F) 0 := by rw [Nat.mul_one]; show (madeCells #[Value.string ⟨#[]⟩] m).toList = _; rw [partL_zero, toList_madeCells_one]; simp [fld, hFm.out]
      have e4 : (madeCells (Value.int .i64 0).cells (m * 1)).toList = partL (Value.int .i64 0) (idx F) 0 := by rw [Nat.mul_one]; show (madeCells #[Value.int .i64 0] m).toList = _; rw [partL_zero, toList_madeCells_one]; simp [idx, hFm.out]
      have o2 := own_below (own_below own2 g3) g4
      have o3 := own_below own3 g4
      have o4 := own4
      rw [e2] at o2
      rw [e3] at o3
      rw [e4] at o4
      have bw : Below w1.heap.size w1 w4 := (g2.trans (g3.mono g2.size)).trans (g4.mono (Nat.le_trans g2.size g3.size))
      have bel : Below w.heap.size w w1 := hB.trans bel1
      clear e2 e3 e4 own2 own3 own4 grow2 grow3 grow4 g2 g3 g4 hown r3 bel1 hB
      go_loopw [16] (fun i wr => ∃ k : Nat, k ≤ m ∧ i = .int .i64 k ∧ wr.ownsRow w1.heap.size 3 1 (.slice (some ⟨w1.heap.size, 0, none⟩) m m) m (partL (.int .i64 0) (rul F) k) ∧ wr.ownsRow w2.heap.size 9 1 (.slice (some ⟨w2.heap.size, 0, none⟩) m m) m (partL (.string ⟨#[]⟩) (fld F) k) ∧ wr.ownsRow w3.heap.size 3 1 (.slice (some ⟨w3.heap.size, 0, none⟩) m m) m (partL (.int .i64 0) (idx F) k) ∧ Below w1.heap.size w1 wr) (fun i _ => m - (intOf i).toNat)
      case atStart => exact ⟨0, Nat.zero_le _, rfl, o2, o3, o4, bw⟩
      case round =>
        obtain ⟨k, hk, rfl, q2, q3, q4, hB⟩ := hrel
        clear o2 o3 o4 bw
        by_cases hlt : k < m
        · obtain ⟨t, ht⟩ := getL F k (by rw [hFm.out]; exact hlt)
          obtain ⟨g, cap, hv, hg0, hg1⟩ := own1.form (by omega)
          simp only [Value.slice.injEq, true_and] at hv
          obtain ⟨rfl, rfl⟩ := hv
          have fg := flat_get F k t ht
          have cells : ∀ j u, (flat F)[j]? = some u → wr.cell? ⟨g, j, none⟩ = some u := fun j u hj => cell_later hB (by
            have hl : j < (flat F).length := (List.getElem?_eq_some_iff.1 hj).1
            rw [own1.cellAt j (by have := own1.1; omega)]; exact hj)
          have s0 := cells _ _ fg.1
          have s1 := cells _ _ fg.2.1
          have s2 := cells _ _ fg.2.2
          obtain ⟨v2, hv2⟩ := own_cell q2 hlt
          obtain ⟨v3, hv3⟩ := own_cell q3 hlt
          obtain ⟨v4, hv4⟩ := own_cell q4 hlt
          have f2 := q2.frozenAt k
          have f3 := q3.frozenAt k
          have f4 := q4.frozenAt k
          have nx := three (k := k) (u1 := .int .i64 t.1) (u2 := .string t.2.1) (u3 := .int .i64 t.2.2) lt1 lt2 q2 q3 q4
          rw [partL_succ _ _ k _ (by simp [rul, ht]), partL_succ _ _ k _ (by simp [fld, ht]), partL_succ _ _ k _ (by simp [idx, ht])] at nx
          have NX : Hid _ := nx
          have NB : Hid (Below w1.heap.size w1 (((wr.setCell ⟨w1.heap.size, k, none⟩ (.int .i64 t.1)).setCell ⟨w2.heap.size, k, none⟩ (.string t.2.1)).setCell ⟨w3.heap.size, k, none⟩ (.int .i64 t.2.2))) := ((hB.setCell (Nat.le_refl _) _).setCell (by simp; omega) _).setCell (by simp; omega) _
          obtain ⟨r, s, x⟩ := t
          simp only at s0 s1 s2
          clear nx cells fg ht q2 q3 q4
          go_wp2
          go_roundw
          case rel => exact ⟨k + 1, by omega, by go_num, NX.out.1, NX.out.2.1, NX.out.2.2, NB.out⟩
          case measure => simp [intOf]; omega
        · have hek : m = k := by omega
          subst hek
          have l2 : (rul F).length = m := by simp [rul, hFm.out]
          have l3 : (fld F).length = m := by simp [fld, hFm.out]
          have l4 : (idx F).length = m := by simp [idx, hFm.out]
          have p2 := partL_all (.int .i64 0) (rul F)
          have p3 := partL_all (.string ⟨#[]⟩) (fld F)
          have p4 := partL_all (.int .i64 0) (idx F)
          rw [l2] at p2
          rw [l3] at p3
          rw [l4] at p4
          rw [p2] at q2
          rw [p3] at q3
          rw [p4] at q4
          have t2 := Rd.of_own q2
          have t3 := Rd.of_own q3
          have t4 := Rd.of_own q4
          have hbf := bel.trans (hB.mono bel.size)
          clear p2 p3 p4 l2 l3 l4 q2 q3 q4 own1
          go_wp2
          go_ret3
          refine ⟨w1.heap.size, w2.heap.size, w3.heap.size, ?_⟩
          rw [← HM.out, ← HF.out]
          exact ⟨rfl, t2, t3, t4, hbf⟩

end Go.Proofs.Qxb6608961a.chk
