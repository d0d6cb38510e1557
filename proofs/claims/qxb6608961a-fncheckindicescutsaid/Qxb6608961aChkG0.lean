import Derived.Test.Qxb6608961aChkE
import Derived.Deep.DeepCutAuto
namespace Go.Proofs.Qxb6608961a.chk
open Go.RowKit
set_option linter.unusedVariables false
attribute [local go_sem ↓] Go.wp_at_zero Go.wp_at_succ

set_option maxHeartbeats 1600000 in
set_option maxRecDepth 100000 in
/-- The early ways out. -/
theorem early5 (a0 a1 a2 a3 a4 : Option Addr) (l0 c0 l1 c1 l2 c2 l3 c3 l4 c4 : Nat) (ss : List ByteArray) (w : World) (r1 : Rd w a1 (ss.map Value.string)) (n1 : Hid (ss.length = l1)) (hz : Hid (∀ s ∈ ss, s.size ≤ 9223372036854775807))
    (m0 : l0 ≤ 9223372036854775807) (m1 : l1 ≤ 9223372036854775807) (m2 : l2 ≤ 9223372036854775807) (m3 : l3 ≤ 9223372036854775807) (m4 : l4 ≤ 9223372036854775807) (h : ¬ (l0 ≤ 16384 ∧ l1 ≤ 16384 ∧ l2 ≤ 16384 ∧ l3 ≤ 32768 ∧ l4 ≤ 32768)) :
    Calls Try.prog 5 #[.slice a0 l0 c0, .slice a1 l1 c1, .slice a2 l2 c2, .slice a3 l3 c3, .slice a4 l4 c4] w fun e w' => e = .returned (.bool true) ∧ Below w.heap.size w w' := by
  rcases (show (16384 < l0) ∨ (l0 ≤ 16384 ∧ 16384 < l1) ∨ (l0 ≤ 16384 ∧ l1 ≤ 16384 ∧ 16384 < l2) ∨ (l0 ≤ 16384 ∧ l1 ≤ 16384 ∧ l2 ≤ 16384 ∧ 32768 < l3) ∨ (l0 ≤ 16384 ∧ l1 ≤ 16384 ∧ l2 ≤ 16384 ∧ l3 ≤ 32768 ∧ 32768 < l4) by omega) with t | ⟨t0, t⟩ | ⟨t0, t1, t⟩ | ⟨t0, t1, t2, t⟩ | ⟨t0, t1, t2, t3, t⟩
  all_goals
    clear h
    go_enter Try.func5, Try.ntmps5
    go_wp2_with fail
    refine (bytes14 _ _ _ _ _ _ _ _ _ _ _ _ _ _ _ ss _ r1 n1 hz m0 m1 m2 m3 m4).mono ?_
    rintro e w' ⟨rfl | ⟨rfl, hsz⟩, rfl⟩
    · go_wp2
      go_ret
      exact ⟨rfl, Below.refl _ _⟩
    · clear hsz
      go_wp2
      go_ret
      exact ⟨rfl, Below.refl _ _⟩

end Go.Proofs.Qxb6608961a.chk
