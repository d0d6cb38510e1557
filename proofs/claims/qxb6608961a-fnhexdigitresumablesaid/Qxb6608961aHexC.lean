import Derived.Test.Qxb6608961aHexB
import Derived.Deep.AppendLies
import Derived.Deep.RegionLaw
import Derived.Deep.DrawnRows
import Derived.Deep.QuietTactic
import Derived.BigQuiet
namespace Go.Proofs.Qxb6608961a.hex
open Go.RowKit
set_option linter.unusedVariables false
attribute [local go_sem ↓] Go.wp_at_zero Go.wp_at_succ

/-- The decoder's seven cells. -/
def cells7 (v : Value) (dg hi : Int) : Array Value := #[v, .int .i64 0, .int .i64 0, .int .i64 dg, .int .u8 hi, .int .u8 0, .int .i64 0]

/-- A decoder of the call's own at block d; its bytes lie in a row of the call's own. -/
structure Dec (w : World) (B d : Nat) (v : Value) (dg hi : Int) (xs : List Int) : Prop where
  cell : w.heap[d]? = some (.cells (cells7 v dg hi) 43 (0, 0))
  row : w.ownsRow B 5 1 v xs.length (xs.map (Value.int .u8))
  le : B ≤ d

theorem Dec.lt {w : World} {B d : Nat} {v : Value} {dg hi : Int} {xs : List Int} (h : Dec w B d v dg hi xs) : d < w.heap.size := lt_of_block h.cell

theorem Dec.apart {w : World} {B d : Nat} {v : Value} {dg hi : Int} {xs : List Int} (h : Dec w B d v dg hi xs) : v.ownBlock ≠ some d := by
  intro e
  rcases h.row.2 with ⟨rfl, _⟩ | ⟨g, cap, cur, rfl, _, hg, _⟩
  · simp [Value.ownBlock] at e
  · simp [Value.ownBlock] at e
    subst e
    rw [h.cell] at hg
    simp at hg

theorem Dec.at0 {w : World} {B d : Nat} {v : Value} {dg hi : Int} {xs : List Int} (h : Dec w B d v dg hi xs) : w.cell? ⟨d, 0, none⟩ = some v := by
  rw [cell_of_row w d 0 _ _ _ h.cell]; rfl
theorem Dec.at3 {w : World} {B d : Nat} {v : Value} {dg hi : Int} {xs : List Int} (h : Dec w B d v dg hi xs) : w.cell? ⟨d, 3, none⟩ = some (.int .i64 dg) := by
  rw [cell_of_row w d 3 _ _ _ h.cell]; rfl
theorem Dec.at4 {w : World} {B d : Nat} {v : Value} {dg hi : Int} {xs : List Int} (h : Dec w B d v dg hi xs) : w.cell? ⟨d, 4, none⟩ = some (.int .u8 hi) := by
  rw [cell_of_row w d 4 _ _ _ h.cell]; rfl
theorem Dec.fz {w : World} {B d : Nat} {v : Value} {dg hi : Int} {xs : List Int} (h : Dec w B d v dg hi xs) (j : Nat) : w.frozen? ⟨d, j, none⟩ = false :=
  frozen_of_row w d j _ _ h.cell

/-- The byte of a pair of digits, as the machine reckons it. -/
def joinB (hi x : Int) : Int := bits .or .u8 (IntKind.u8.wrap (hi * 16)) x

/-- Behind the append: the decoder's own block is as it was. -/
theorem Dec.far {w w1 : World} {B d : Nat} {v : Value} {dg hi : Int} {xs : List Int} (h : Dec w B d v dg hi xs) (o : Obj) (hg : (w.alloc o).drew.grownBy w1 v.ownBlock) :
    w1.heap[d]? = some (.cells (cells7 v dg hi) 43 (0, 0)) := by
  rw [hg.block d (by have := h.lt; simp; omega) (Ne.symm h.apart)]
  show (w.alloc o).heap[d]? = _
  rw [Below.heap_alloc w o d h.lt]
  exact h.cell

theorem Dec.belowGrown {w w1 : World} {B d : Nat} {v : Value} {dg hi : Int} {xs : List Int} (h : Dec w B d v dg hi xs) (o : Obj) (hg : (w.alloc o).drew.grownBy w1 v.ownBlock) : Below B w w1 := by
  have hB : B ≤ w.heap.size := by have := h.lt; have := h.le; omega
  refine (((Below.refl B w).alloc hB o).drew).grown hg (by simp; omega) (fun k hk => (h.row.lt k hk).1)

theorem block_setCell {w : World} {d j : Nat} {cs : Array Value} {t : TypeId} {u : Value} (h : w.heap[d]? = some (.cells cs t (0, 0))) : (w.setCell ⟨d, j, none⟩ u).heap[d]? = some (.cells (cs.setIfInBounds j u) t (0, 0)) :=
  heap_setCell_same w d j cs t u h

/-- The stores into the decoder's own block. -/
theorem Dec.stored {w1 : World} {B d g cap : Nat} {v : Value} {dg hi b : Int} {xs : List Int} (hc : w1.heap[d]? = some (.cells (cells7 v dg hi) 43 (0, 0))) (hle : B ≤ d)
    (hown : w1.ownsRow B 5 1 (.slice (some ⟨g, 0, none⟩) (xs.length + 1) cap) (xs.length + 1) (xs.map (Value.int .u8) ++ [.int .u8 b])) :
    Dec ((w1.setCell ⟨d, 0, none⟩ (.slice (some ⟨g, 0, none⟩) (xs.length + 1) cap)).setCell ⟨d, 3, none⟩ (.int .i64 (dg + 1))) B d (.slice (some ⟨g, 0, none⟩) (xs.length + 1) cap) (dg + 1) hi (xs ++ [b]) := by
  obtain ⟨ys, hys⟩ : ∃ ys, ys = xs ++ [b] := ⟨_, rfl⟩
  have e1 : xs.length + 1 = ys.length := by rw [hys]; simp
  have e2 : xs.map (Value.int .u8) ++ [.int .u8 b] = ys.map (Value.int .u8) := by rw [hys]; simp
  rw [← hys, e1]
  rw [e1, e2] at hown
  clear e1 e2 hys
  revert hown
  generalize ys = xs
  intro hown
  have hne : (Value.slice (some ⟨g, 0, none⟩) xs.length cap).ownBlock ≠ some d := by
    intro e
    simp [Value.ownBlock] at e
    subst e
    rcases hown.2 with ⟨h, _⟩ | ⟨g', cap', cur, h, _, hg, _⟩
    · simp at h
    · simp at h
      obtain ⟨rfl, _⟩ := h
      rw [hc] at hg
      simp at hg
  refine ⟨?_, ownsRow_setCell_other (ownsRow_setCell_other hown hne _) hne _, hle⟩
  rw [block_setCell (block_setCell hc)]
  rfl

theorem Dec.storedEven {w : World} {B d : Nat} {v : Value} {dg hi : Int} {xs : List Int} (h : Dec w B d v dg hi xs) (x : Int) :
    Dec ((w.setCell ⟨d, 4, none⟩ (.int .u8 x)).setCell ⟨d, 3, none⟩ (.int .i64 (dg + 1))) B d v (dg + 1) x xs := by
  refine ⟨?_, ownsRow_setCell_other (ownsRow_setCell_other h.row h.apart _) h.apart _, h.le⟩
  rw [block_setCell (block_setCell h.cell)]
  rfl

set_option maxHeartbeats 1000000 in
set_option maxRecDepth 100000 in
theorem digit_odd (B d : Nat) (v : Value) (dg hi x : Int) (xs : List Int) (w : World) (hd : Dec w B d v dg hi xs) (h0 : 0 ≤ dg) (h1 : dg ≤ 4294967296) (hodd : (dg % 2 == 1) = true)
    (hn : xs.length ≤ 4294967296) :
    Calls Try.prog 18 #[.pointer (some ⟨d, 0, none⟩), .int .u8 x] w fun e w' => e = .returned (.tuple #[]) ∧ ∃ v', Dec w' B d v' (dg + 1) hi (xs ++ [joinB hi x]) ∧ Below B w w' := by
  obtain ⟨i0, hi0, hz0, hz1, hz2⟩ := info_parts info5
  have c0 := hd.at0
  have c3 := hd.at3
  have c4 := hd.at4
  have f0 := hd.fz 0
  have f3 := hd.fz 3
  have f4 := hd.fz 4
  have hfar := fun (o : Obj) (w1 : World) => hd.far (w1 := w1) o
  have a0 : ∀ o, (w.alloc o).cell? ⟨d, 0, none⟩ = some v := fun o => (World.cell?_alloc_past _ _ _ hd.lt).trans c0
  go_enter Try.func18, Try.ntmps18
  go_wp2
  go_region_law ((refine step_append_lies _ (by rfl) _ _ _ (by rfl) B 5 i0 _ 1 1 Try.underlying22 hi0 hz0 hz1 hz2 rfl (by omega) v _ _ (by rfl) ((hd.row.alloc _).drew) ⟨w.heap.size, 0, none⟩ 1 1 [_] (by rfl) (by rfl) (World.news_of_block (cs := #[_]) (t := 5) (fr := (0, 0)) (heap_alloc_new w _)) (by simp [Value.oneCell']) (by omega) (by unfold maxLen; omega) (by omega) (by have := hd.lt; have := hd.le; simp; omega) (w.heap.size + 1) (by simp) ?_; intro g cap w1 hown1 hgrow hat hlt; have hc := hfar _ _ hgrow; have k0 : w1.cell? ⟨d, 0, none⟩ = some v := (cell_of_row w1 d 0 _ _ _ hc).trans rfl; have k3 : w1.cell? ⟨d, 3, none⟩ = some (.int .i64 dg) := (cell_of_row w1 d 3 _ _ _ hc).trans rfl; have e0 := frozen_of_row w1 d 0 _ _ hc; have e3 := frozen_of_row w1 d 3 _ _ hc))
  all_goals
    go_wp2
    go_end0
    refine ⟨rfl, _, Dec.stored (b := joinB hi x) hc hd.le hown1, ?_⟩
    exact ((hd.belowGrown _ hgrow).setCell hd.le _).setCell hd.le _

set_option maxHeartbeats 400000 in
theorem digit_even (B d : Nat) (v : Value) (dg hi x : Int) (xs : List Int) (w : World) (hd : Dec w B d v dg hi xs) (h0 : 0 ≤ dg) (h1 : dg ≤ 4294967296) (hev : (dg % 2 == 1) = false) :
    Calls Try.prog 18 #[.pointer (some ⟨d, 0, none⟩), .int .u8 x] w fun e w' => e = .returned (.tuple #[]) ∧ Dec w' B d v (dg + 1) x xs ∧ Below B w w' := by
  have c0 := hd.at0
  have c3 := hd.at3
  have c4 := hd.at4
  have f0 := hd.fz 0
  have f3 := hd.fz 3
  have f4 := hd.fz 4
  go_enter Try.func18, Try.ntmps18
  go_wp2
  go_end0
  exact ⟨rfl, hd.storedEven x, ((Below.refl _ _).setCell hd.le _).setCell hd.le _⟩

end Go.Proofs.Qxb6608961a.hex
