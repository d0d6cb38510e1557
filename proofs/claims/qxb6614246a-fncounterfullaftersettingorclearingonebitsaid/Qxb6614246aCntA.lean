import Derived.Test.Qxb6614246aRows
import Derived.WalkKit
import Derived.WalkSpells
import Derived.OpenShut
import Derived.Below
import Derived.Deep.QuietTactic
import Derived.BigQuiet
import Derived.Lib.Strings
import Derived.Lib.Slices
import Derived.Lib.Small
import Derived.Lib.Walk
import Derived.Lib.BitFns
namespace Go.Proofs.Qxb6614246a.cnt
open Go.RowKit
set_option linter.unusedVariables false

/-- The mask of bit j. -/
def mk (j : Nat) : Int := 128 / 2 ^ (j % 8)

theorem mask17 (j : Nat) (w : World) (h1 : j ≤ 4294967296) :
    Calls Try.prog 17 #[.int .i64 (j : Int)] w fun e w' => e = .returned (.int .u8 (mk j)) ∧ w' = w := by
  have e : ((j : Int) % 8).toNat = j % 8 := by omega
  go_enter Try.func17, Try.ntmps17
  go_wp2
  go_ret
  exact ⟨rfl, rfl⟩

theorem pop_bd : ∀ n : Fin 256, 0 ≤ Lib.pop8 (n.val : Int) ∧ Lib.pop8 (n.val : Int) ≤ 8 := by decide +kernel

set_option maxRecDepth 100000 in
theorem ones28 (x : Int) (w : World) (h0 : 0 ≤ x) (h1 : x ≤ 255) :
    Calls Try.prog 28 #[.int .u8 x] w fun e w' => e = .returned (.int .i64 (Lib.pop8 x)) ∧ w' = w := by
  have e := pop_bd ⟨x.toNat, by omega⟩
  simp only [Int.toNat_of_nonneg h0] at e
  obtain ⟨e0, e1⟩ := e
  go_enter Try.func28, Try.ntmps28
  go_wp2
  go_ret
  exact ⟨rfl, rfl⟩

/-- Only the count of draws has turned. -/
def Same (w w' : World) : Prop := w'.heap = w.heap ∧ Below w.heap.size w w'
theorem Same.drewN (w : World) (n : Nat) : Same w (w.drewN n) := ⟨rfl, rfl, rfl, rfl, Nat.le_refl _, fun _ _ => rfl⟩

/-- The elements of a slice of bytes: what is read through it. -/
def Rd (w : World) (a : Option Addr) (zs : List Int) : Prop :=
  zs = [] ∨ ∃ b off, a = some ⟨b, off, none⟩ ∧ ∀ j, j < zs.length → w.cell? ⟨b, off + j, none⟩ = some (.int .u8 (zs.getD j 0))

theorem Rd.mono {w w' : World} {a : Option Addr} {zs : List Int} (h : Rd w a zs) (hb : Below w.heap.size w w') : Rd w' a zs := by
  rcases h with h | ⟨b, off, rfl, hc⟩
  · exact .inl h
  · exact .inr ⟨b, off, rfl, fun j hj => cell_later hb (hc j hj)⟩

/-- Is the bit under the mask set? -/
def bitv (o : Int) (j : Nat) : Bool := bits .and .u8 o (mk j) != 0
/-- Bit j of a row of octets. -/
def bitAt (os : List Int) (j : Nat) : Bool := bitv (os.getD (j / 8) 0) j

set_option maxRecDepth 100000 in
set_option maxHeartbeats 400000 in
theorem bit16 (a : Option Addr) (l c j : Nat) (os : List Int) (w : World) (hr : Rd w a os) (hl : Hid (os.length = l)) (hj : j < 8 * l) (hb : l ≤ 1048576) :
    Calls Try.prog 16 #[.slice a l c, .int .i64 (j : Int)] w fun e w' => e = .returned (.bool (bitAt os j)) ∧ ∃ n, w' = w.drewN n := by
  have hjl : j / 8 < l := by omega
  rcases hr with h | ⟨b, off, rfl, hc⟩
  · have := hl.out; rw [h] at this; simp at this; omega
  have c1 := hc (j / 8) (by have := hl.out; omega)
  obtain ⟨o, ho⟩ : ∃ o, o = os.getD (j / 8) 0 := ⟨_, rfl⟩
  rw [← ho] at c1
  have HO : Hid (bitAt os j = bitv o j) := by rw [ho]; rfl
  have i1 : (j : Int) / 8 < (l : Int) := by omega
  have i2 : (0 : Int) ≤ (j : Int) / 8 := by omega
  have i3 : ((j : Int) / 8).toNat = j / 8 := by omega
  clear hc ho
  go_enter Try.func16, Try.ntmps16
  go_wp2
  go_quiet ((go_at_call 17; exact (mask17 _ _ (by omega)).mono fun _ _ h => ⟨h.1, _, h.2⟩))
  go_wp2
  go_ret
  exact ⟨by rw [HO.out]; rfl, _, rfl⟩

/-! ### The finite laws -/
theorem fin_or : ∀ o : Fin 256, ∀ r : Fin 8, ∀ q : Fin 8, 0 ≤ bits .or .u8 (o.val : Int) (mk r.val) ∧ bits .or .u8 (o.val : Int) (mk r.val) ≤ 255 ∧ bitv (bits .or .u8 (o.val : Int) (mk r.val)) q.val = (bitv (o.val : Int) q.val || decide (q.val = r.val)) := by decide +kernel
theorem fin_not : ∀ o : Fin 256, ∀ r : Fin 8, ∀ q : Fin 8, 0 ≤ bits .andNot .u8 (o.val : Int) (mk r.val) ∧ bits .andNot .u8 (o.val : Int) (mk r.val) ≤ 255 ∧ bitv (bits .andNot .u8 (o.val : Int) (mk r.val)) q.val = (bitv (o.val : Int) q.val && !decide (q.val = r.val)) := by decide +kernel
theorem fin_zero : ∀ q : Fin 8, bitv 0 q.val = false := by decide +kernel
def b2i (b : Bool) : Int := if b then 1 else 0
theorem fin_pop : ∀ o : Fin 256, Lib.pop8 (o.val : Int) = b2i (bitv o.val 0) + b2i (bitv o.val 1) + b2i (bitv o.val 2) + b2i (bitv o.val 3) + b2i (bitv o.val 4) + b2i (bitv o.val 5) + b2i (bitv o.val 6) + b2i (bitv o.val 7) := by decide +kernel
theorem fin_none : ∀ o : Fin 256, (∀ q : Fin 8, bitv (o.val : Int) q.val = false) → o.val = 0 := by decide +kernel

end Go.Proofs.Qxb6614246a.cnt
