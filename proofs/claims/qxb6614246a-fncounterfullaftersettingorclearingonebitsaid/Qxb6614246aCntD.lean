import Derived.Test.Qxb6614246aCntC
import Derived.Laws.CopyOwn
namespace Go.Proofs.Qxb6614246a.cnt
open Go.RowKit
set_option linter.unusedVariables false
attribute [local go_sem ↓] Go.wp_at_zero Go.wp_at_succ

set_option maxRecDepth 100000 in
set_option maxHeartbeats 1000000 in
theorem full19 (a : Option Addr) (l c n : Nat) (os : List Int) (w : World) (hr : Rd w a os) (hl : Hid (os.length = l)) (hok : Hid (Okay os)) (hb : l ≤ 1048576) :
    Calls Try.prog 19 #[.agg #[.int .i64 (n : Int), .slice a l c]] w fun e w' => e = .returned (.bool (full os n)) ∧ Below w.heap.size w w' := by
  have b1 := (ones_bd os hok.out l).1
  have b2 := (ones_bd os hok.out l).2
  have hr' : ∀ x, Rd (w.alloc x).drew a os := fun x => hr.mono ((Below.refl _ _).alloc (Nat.le_refl _) _).drew
  have HF : Hid (full os n = (ones os l == (n : Int))) := by show full os n = _; unfold full; rw [hl.out]; rfl
  go_enter Try.func19, Try.ntmps19
  go_wp2
  go_region_held3 (fun w' => w'.cell? ⟨w.heap.size, 0, none⟩ = some (.int .i64 (n : Int)) ∧ w'.cell? ⟨w.heap.size, 1, none⟩ = some (.slice a l c))
    (first
      | go_keep
      | (go_split_ands
         refine ⟨?_, ?_⟩
         · (rw [hbel.cell (by simp)]; simp)
         · (rw [hbel.cell (by simp)]; simp)))
    ((go_at_call 24; refine (ones24 a l c n os _ (hr' _) hl hok hb).mono ?_; rintro e w1 ⟨rfl, hbel⟩))
  all_goals
    go_wp2
    go_ret
    exact ⟨by rw [HF.out]; rfl, (((Below.refl _ _).alloc (Nat.le_refl _) _).drew).trans (hbel.mono (by simp))⟩

end Go.Proofs.Qxb6614246a.cnt
