import Derived.Test.Qxb6608961aChkD
import Derived.Laws.CopyOwn
namespace Go.Proofs.Qxb6608961a.chk
open Go.RowKit
set_option linter.unusedVariables false

/-! ### The plain laws -/
theorem asc_append (a b : List Int) : asc (a ++ b) = (asc a && asc b && (a.isEmpty || b.isEmpty || decide (a.getD (a.length - 1) 0 < b.getD 0 0))) := by
  rw [Bool.eq_iff_iff]
  simp only [Bool.and_eq_true, Bool.or_eq_true, decide_eq_true_eq, List.isEmpty_iff]
  rw [asc_iff, asc_iff, asc_iff]
  have gl : ∀ k, k < a.length → (a ++ b).getD k 0 = a.getD k 0 := fun k hk => by simp [List.getD, List.getElem?_append_left hk]
  have gr : ∀ k, (a ++ b).getD (a.length + k) 0 = b.getD k 0 := fun k => by simp [List.getD, List.getElem?_append_right]
  constructor
  · intro h
    refine ⟨⟨fun k h1 h2 => ?_, fun k h1 h2 => ?_⟩, ?_⟩
    · have := h k h1 (by simp; omega)
      rwa [gl _ (by omega), gl _ (by omega)] at this
    · have := h (a.length + k) (by omega) (by simp; omega)
      rw [gr, show a.length + k - 1 = a.length + (k - 1) by omega, gr] at this
      exact this
    · by_cases ha : a = []
      · exact .inl (.inl ha)
      · by_cases hb : b = []
        · exact .inl (.inr hb)
        · have pa : 0 < a.length := List.length_pos_iff.2 ha
          have pb : 0 < b.length := List.length_pos_iff.2 hb
          have := h a.length (by omega) (by simp; omega)
          rw [gl _ (by omega)] at this
          have e := gr 0
          rw [Nat.add_zero] at e
          rw [e] at this
          exact .inr this
  · rintro ⟨⟨h1, h2⟩, h3⟩ k hk hl
    simp at hl
    rcases Nat.lt_trichotomy k a.length with hlt | heq | hgt
    · rw [gl _ (by omega), gl _ hlt]
      exact h1 k hk hlt
    · subst heq
      have e := gr 0
      rw [Nat.add_zero] at e
      rw [gl _ (by omega), e]
      rcases h3 with (h3 | h3) | h3
      · subst h3; simp at hk
      · subst h3; simp at hl
      · exact h3
    · obtain ⟨j, rfl⟩ : ∃ j, k = a.length + j := ⟨k - a.length, by omega⟩
      rw [gr, show a.length + j - 1 = a.length + (j - 1) by omega, gr]
      exact h2 j (by omega) (by omega)

theorem asc_short (zs : List Int) (h : zs.length ≤ 1) : asc zs = true := (asc_iff zs).2 fun k h1 h2 => by omega

theorem asc_rev (zs : List Int) (h : 2 ≤ zs.length) (h1 : asc zs = true) : asc zs.reverse = false := by
  have a := (asc_iff zs).1 h1 1 (by omega) (by omega)
  refine asc_false zs.reverse (zs.length - 1) (by omega) (by simp; omega) ?_
  have e0 : zs.reverse.getD (zs.length - 1) 0 = zs.getD 0 0 := by
    simp [List.getD, List.getElem?_reverse (show zs.length - 1 < zs.length by omega), show zs.length - 1 - (zs.length - 1) = 0 by omega]
  have e1 : zs.reverse.getD (zs.length - 1 - 1) 0 = zs.getD 1 0 := by
    simp [List.getD, List.getElem?_reverse (show zs.length - 1 - 1 < zs.length by omega), show zs.length - 1 - (zs.length - 1 - 1) = 1 by omega]
  rw [e0, e1]
  simp at a
  simp
  omega

/-- Three lists of one length, as one list. -/
def join3 (rs : List Int) (ss : List ByteArray) (xs : List Int) : List Br := rs.zip (ss.zip xs)
theorem join3_len {rs : List Int} {ss : List ByteArray} {xs : List Int} (h1 : ss.length = rs.length) (h2 : xs.length = rs.length) : (join3 rs ss xs).length = rs.length := by simp [join3, h1, h2]
theorem rul_join {rs : List Int} {ss : List ByteArray} {xs : List Int} (h1 : ss.length = rs.length) (h2 : xs.length = rs.length) : rul (join3 rs ss xs) = rs.map (Value.int .i64) := by
  have : (join3 rs ss xs).map Prod.fst = rs := by unfold join3; rw [List.map_fst_zip]; simp [h1, h2]
  unfold rul
  conv => rhs; rw [← this]
  simp
theorem fld_join {rs : List Int} {ss : List ByteArray} {xs : List Int} (h1 : ss.length = rs.length) (h2 : xs.length = rs.length) : fld (join3 rs ss xs) = ss.map Value.string := by
  have a : (join3 rs ss xs).map Prod.snd = ss.zip xs := by unfold join3; rw [List.map_snd_zip]; simp [h1, h2]
  have b : (ss.zip xs).map Prod.fst = ss := by rw [List.map_fst_zip]; simp [h1, h2]
  unfold fld
  conv => rhs; rw [← b, ← a]
  simp
theorem idx_join {rs : List Int} {ss : List ByteArray} {xs : List Int} (h1 : ss.length = rs.length) (h2 : xs.length = rs.length) : idx (join3 rs ss xs) = xs.map (Value.int .i64) := by
  have a : (join3 rs ss xs).map Prod.snd = ss.zip xs := by unfold join3; rw [List.map_snd_zip]; simp [h1, h2]
  have b : (ss.zip xs).map Prod.snd = xs := by rw [List.map_snd_zip]; simp [h1, h2]
  unfold idx
  conv => rhs; rw [← b, ← a]
  simp

/-! ### What a copy leaves -/
theorem own_block {w : World} {B g n : Nat} {e : TypeId} {xs : List Value} (h : w.ownsRow B e 1 (.slice (some ⟨g, 0, none⟩) n n) n xs) : w.heap[g]? = some (.cells xs.toArray e (0, 0)) := by
  rcases h.2 with ⟨h', _⟩ | ⟨g', cap', cur, h', _, hg, _, _, hs, ht⟩
  · simp at h'
  · simp only [Value.slice.injEq, Option.some.injEq, Addr.mk.injEq, and_true, true_and] at h'
    obtain ⟨rfl, rfl⟩ := h'
    have : cur = xs.toArray := by
      rw [← ht, List.take_of_length_le (by simp; omega)]
    rw [← this]; exact hg

theorem copied {w : World} {g : Nat} {e : TypeId} {cur cs : List Value} (h : w.heap[g]? = some (.cells (splice cur 0 cs).toArray e (0, 0))) (hl : cur.length = cs.length) : Rd w (some ⟨g, 0, none⟩) cs := by
  have es : splice cur 0 cs = cs := by simp [splice]; omega
  rw [es] at h
  refine .inr ⟨g, 0, rfl, fun j u hj => ?_⟩
  rw [Nat.zero_add, cell_of_row w g j _ _ _ h]
  simpa using hj

theorem made_len (z : Value) (hz : z.cells = #[z]) (n : Nat) : ((madeCells z.cells (n * 1)).toList).length = n := by rw [hz, Nat.mul_one, toList_madeCells_one]; simp

/-- The source of a copy. -/
theorem src_of {w w' : World} {a : Option Addr} {cs : List Value} (h : Rd w a cs) (hb : Below w.heap.size w w') (g : Nat) :
    0 < cs.length → (some ⟨g, 0, none⟩ : Option Addr) = some ⟨g, 0, none⟩ ∧ ∃ ad, a = some ad ∧ ∀ j v, cs[j]? = some v → w'.cell? (ad.add j) = some v := by
  intro hp
  rcases h with h | ⟨b, off, rfl, hc⟩
  · rw [h] at hp; simp at hp
  · refine ⟨rfl, _, rfl, fun j v hj => ?_⟩
    rw [Addr.add_lit]
    exact cell_later hb (hc j v hj)

theorem size3 : (Try.prog.info? 3).map (·.size) = some 1 := by kernel_rfl
theorem size9 : (Try.prog.info? 9).map (·.size) = some 1 := by kernel_rfl
theorem size36 : (Try.prog.info? 36).map (·.size) = some 1 := by kernel_rfl

theorem one_ints (k : IntKind) (zs : List Int) : ∀ u ∈ zs.map (Value.int k), u.oneCell' = true := ints_oneCell k zs
theorem one_strs (ss : List ByteArray) : ∀ u ∈ ss.map Value.string, u.oneCell' = true := by
  intro u hu
  obtain ⟨_, _, rfl⟩ := List.mem_map.1 hu
  rfl

/-- 15, its list under a name. -/
theorem door15v (a0 a1 a2 a3 : Option Addr) (n c0 c1 c2 l3 c3 m : Nat) (L F : List Br) (zs : List Int) (w : World) (hF : Hid (F = fin L zs)) (hm : Hid (F.length = m))
    (h0 : Rd w a0 (rul L)) (h1 : Rd w a1 (fld L)) (h2 : Rd w a2 (idx L)) (h3 : Rd w a3 (zs.map (Value.int .u32))) (hn : Hid (L.length = n)) (h3n : Hid (zs.length = l3)) (bn : n ≤ 1048576) (b3 : l3 ≤ 1048576) :
    Calls Try.prog 15 #[.slice a0 n c0, .slice a1 n c1, .slice a2 n c2, .slice a3 l3 c3] w fun e w' => ∃ g1 g2 g3 : Nat,
      e = .returned (.tuple #[.slice (some ⟨g1, 0, none⟩) m m, .slice (some ⟨g2, 0, none⟩) m m, .slice (some ⟨g3, 0, none⟩) m m]) ∧
      Rd w' (some ⟨g1, 0, none⟩) (rul F) ∧ Rd w' (some ⟨g2, 0, none⟩) (fld F) ∧ Rd w' (some ⟨g3, 0, none⟩) (idx F) ∧ Below w.heap.size w w' := by
  have e1 := hF.out
  have e2 := hm.out
  subst e1
  subst e2
  exact door15 a0 a1 a2 a3 n c0 c1 c2 l3 c3 L zs w h0 h1 h2 h3 hn h3n bn b3

theorem one16v (g1 g2 g3 m : Nat) (F : List Br) (zs : List Int) (w : World) (hF : Hid (F = fin [] zs)) (hm : Hid (F.length = m)) (h1 : Rd w (some ⟨g1, 0, none⟩) (rul F)) (h2 : Rd w (some ⟨g2, 0, none⟩) (fld F)) (h3 : Rd w (some ⟨g3, 0, none⟩) (idx F)) :
    Calls Try.prog 16 #[.slice (some ⟨g1, 0, none⟩) m m, .slice (some ⟨g2, 0, none⟩) m m, .slice (some ⟨g3, 0, none⟩) m m] w fun e w' => e = .returned (.bool true) ∧ w = w' := by
  have e1 := hF.out
  have e2 := hm.out
  subst e1
  subst e2
  exact one16 g1 g2 g3 zs w h1 h2 h3 _ rfl

/-- A row that is filled from its end. -/
def revL (zs : List Int) (n k : Nat) : List Value := List.replicate (n - k) (.int .u32 0) ++ ((zs.take k).reverse).map (Value.int .u32)
theorem revL_zero (zs : List Int) (n : Nat) : revL zs n 0 = List.replicate n (.int .u32 0) := by simp [revL]
theorem revL_all (zs : List Int) (n : Nat) (h : zs.length = n) : revL zs n n = zs.reverse.map (Value.int .u32) := by
  simp [revL, List.take_of_length_le (Nat.le_of_eq h)]
theorem revL_succ (zs : List Int) (n k : Nat) (z : Int) (hk : k < n) (h : zs[k]? = some z) : (revL zs n k).set (n - 1 - k) (.int .u32 z) = revL zs n (k + 1) := by
  unfold revL
  rw [take_snocL zs k z h, List.reverse_append, List.map_append, List.set_append_left _ _ (by simp; omega)]
  have e : n - k = (n - 1 - k) + 1 := by omega
  rw [e, List.replicate_succ', show n - (k + 1) = n - 1 - k by omega]
  rw [List.set_append_right _ _ (by simp)]
  simp

/-- The cell at k of what is read. -/
theorem Rd.at {w : World} {g : Nat} {cs : List Value} (h : Rd w (some ⟨g, 0, none⟩) cs) (k : Nat) (u : Value) (hk : cs[k]? = some u) : w.cell? ⟨g, k, none⟩ = some u := by
  rcases h with h | ⟨b, o, he, hc⟩
  · rw [h] at hk; simp at hk
  · cases he
    simpa using hc k u hk
/-- .. and of a slice whose address is not known yet. -/
theorem Rd.spot {w : World} {a : Option Addr} {cs : List Value} (h : Rd w a cs) (k : Nat) (u : Value) (hk : cs[k]? = some u) : ∃ b o, a = some ⟨b, o, none⟩ ∧ w.cell? ⟨b, o + k, none⟩ = some u := by
  rcases h with h | ⟨b, o, he, hc⟩
  · rw [h] at hk; simp at hk
  · exact ⟨b, o, he, hc k u hk⟩

theorem fin_app (L : List Br) (zs : List Int) : fin L zs = L ++ fin [] zs := by unfold fin; simp

end Go.Proofs.Qxb6608961a.chk
