/- The proof of 'Rows.FnIsXMLCharTakesSurrogatePairCodeNotItsHalvesSaid', in the frame that the kit's skeleton tool wrote. -/
import Derived.Test.Qxb6614202aRows
import Derived.WalkKit
import Derived.ProofKit
import Derived.OpenShut
import Derived.ShutString
namespace Go.Proofs.Qxb6614202a.fnIsXMLCharTakesSurrogatePairCodeNotItsHalves
open Go.ChangeShapes Go.WideShapes Go.ChangeAt Go.RowKit
open Go.ChangeMaps (open_string shut_string)
set_option linter.unusedVariables false      -- a walk need not use every 'w<i>' (that an integer argument fits its kind)

theorem own : ownKnob Try.prog.godebug = none := by kernel_rfl

/-- What isXMLChar answers. -/
def xmlB (c : Int) : Bool := decide (c = 9 ∨ c = 10 ∨ c = 13 ∨ (32 ≤ c ∧ c ≤ 55295) ∨ (57344 ≤ c ∧ c ≤ 65533) ∨ (65536 ≤ c ∧ c ≤ 1114111))

set_option maxHeartbeats 1000000 in
set_option maxRecDepth 100000 in
theorem xml_yes (c : Int) (w : World) (h : xmlB c = true) : Calls Try.prog 13 #[.int .i32 c] w fun e w' => e = .returned (.bool true) ∧ w = w' := by
  have h' := of_decide_eq_true h
  clear h
  rcases h' with h | h | h | ⟨h, h2⟩ | ⟨h, h2⟩ | ⟨h, h2⟩
  · subst h
    go_enter Try.func13, Try.ntmps13
    go_wp2
    go_ret
    exact ⟨rfl, rfl⟩
  · subst h
    go_enter Try.func13, Try.ntmps13
    go_wp2
    go_ret
    exact ⟨rfl, rfl⟩
  · subst h
    go_enter Try.func13, Try.ntmps13
    go_wp2
    go_ret
    exact ⟨rfl, rfl⟩
  all_goals
    go_enter Try.func13, Try.ntmps13
    go_wp2
    go_ret
    exact ⟨rfl, rfl⟩

set_option maxHeartbeats 1000000 in
set_option maxRecDepth 100000 in
theorem xml_no (c : Int) (w : World) (h : xmlB c = false) : Calls Try.prog 13 #[.int .i32 c] w fun e w' => e = .returned (.bool false) ∧ w = w' := by
  have h' := of_decide_eq_false h
  clear h
  have n1 : (c == 9) = false := by simp; omega
  have n2 : (c == 10) = false := by simp; omega
  have n3 : (c == 13) = false := by simp; omega
  rcases (show c < 32 ∨ (55296 ≤ c ∧ c < 57344) ∨ (65534 ≤ c ∧ c < 65536) ∨ 1114112 ≤ c by omega) with h | ⟨h, h2⟩ | ⟨h, h2⟩ | h
  · have f0 : decide ((32 : Int) ≤ c) = false := by simp; omega
    have f1 : decide (c ≤ (55295 : Int)) = true := by simp; omega
    have f2 : decide ((57344 : Int) ≤ c) = false := by simp; omega
    have f3 : decide (c ≤ (65533 : Int)) = true := by simp; omega
    have f4 : decide ((65536 : Int) ≤ c) = false := by simp; omega
    have f5 : decide (c ≤ (1114111 : Int)) = true := by simp; omega
    clear h'
    go_enter Try.func13, Try.ntmps13
    go_wp2
    go_ret
    exact ⟨rfl, rfl⟩
  · have f0 : decide ((32 : Int) ≤ c) = true := by simp; omega
    have f1 : decide (c ≤ (55295 : Int)) = false := by simp; omega
    have f2 : decide ((57344 : Int) ≤ c) = false := by simp; omega
    have f3 : decide (c ≤ (65533 : Int)) = true := by simp; omega
    have f4 : decide ((65536 : Int) ≤ c) = false := by simp; omega
    have f5 : decide (c ≤ (1114111 : Int)) = true := by simp; omega
    clear h'
    go_enter Try.func13, Try.ntmps13
    go_wp2
    go_ret
    exact ⟨rfl, rfl⟩
  · have f0 : decide ((32 : Int) ≤ c) = true := by simp; omega
    have f1 : decide (c ≤ (55295 : Int)) = false := by simp; omega
    have f2 : decide ((57344 : Int) ≤ c) = true := by simp; omega
    have f3 : decide (c ≤ (65533 : Int)) = false := by simp; omega
    have f4 : decide ((65536 : Int) ≤ c) = false := by simp; omega
    have f5 : decide (c ≤ (1114111 : Int)) = true := by simp; omega
    clear h'
    go_enter Try.func13, Try.ntmps13
    go_wp2
    go_ret
    exact ⟨rfl, rfl⟩
  · have f0 : decide ((32 : Int) ≤ c) = true := by simp; omega
    have f1 : decide (c ≤ (55295 : Int)) = false := by simp; omega
    have f2 : decide ((57344 : Int) ≤ c) = true := by simp; omega
    have f3 : decide (c ≤ (65533 : Int)) = false := by simp; omega
    have f4 : decide ((65536 : Int) ≤ c) = true := by simp; omega
    have f5 : decide (c ≤ (1114111 : Int)) = false := by simp; omega
    clear h'
    go_enter Try.func13, Try.ntmps13
    go_wp2
    go_ret
    exact ⟨rfl, rfl⟩

/-! ### STEP 1: THE WALK -/
theorem walk (a0 : Int) (a1 : Int) (w0 : (Lit.int .i32 a0).wf = true) (w1 : (Lit.int .i32 a1).wf = true) (w : World) :
    Calls Try.prog 6 #[.int .i32 a0, .int .i32 a1] w fun e w' => e = .returned (.bool true) ∧ Grown w w' := by
  by_cases hin : 55296 ≤ a0 ∧ a0 ≤ 56319 ∧ 56320 ≤ a1 ∧ a1 ≤ 57343
  · obtain ⟨h1, h2, h3, h4⟩ := hin
    have y : xmlB (65536 + (a0 - 55296) * 1024 + (a1 - 56320)) = true := decide_eq_true (by omega)
    have n0 : xmlB a0 = false := decide_eq_false (by omega)
    have n1 : xmlB a1 = false := decide_eq_false (by omega)
    go_enter Try.func6, Try.ntmps6
    go_wp2_with fail
    refine (xml_yes _ _ y).mono ?_
    rintro e w' ⟨rfl, rfl⟩
    go_wp2_with fail
    refine (xml_no _ _ n0).mono ?_
    rintro e w' ⟨rfl, rfl⟩
    go_wp2_with fail
    refine (xml_no _ _ n1).mono ?_
    rintro e w' ⟨rfl, rfl⟩
    go_wp2
    go_ret
    exact ⟨rfl, by repeat (first | exact Grown.refl _ | apply Grown.drew | apply Grown.alloc)⟩
  · rcases (show a0 < 55296 ∨ (55296 ≤ a0 ∧ 56319 < a0) ∨ (55296 ≤ a0 ∧ a0 ≤ 56319 ∧ a1 < 56320) ∨ (55296 ≤ a0 ∧ a0 ≤ 56319 ∧ 56320 ≤ a1 ∧ 57343 < a1) by omega) with h | ⟨h, h2⟩ | ⟨h, h2, h3⟩ | ⟨h, h2, h3, h4⟩
    all_goals
      clear hin
      go_enter Try.func6, Try.ntmps6
      go_wp2
      go_ret
      exact ⟨rfl, by repeat (first | exact Grown.refl _ | apply Grown.drew | apply Grown.alloc)⟩

/-! ### THE ROW's STEP: WRITTEN OUT: LEAVE IT -/
set_option maxRecDepth 100000 in
theorem lifted (os : Os) (started : os.Started) (H : Type) (enc : TypeId × Value → H) :
    ReturnsInHanded {} Try.checked os 6 .any (Rows.fnIsXMLCharTakesSurrogatePairCodeNotItsHalvesSpec.pre6 enc Try.prog Try.f6 Rows.fnIsXMLCharTakesSurrogatePairCodeNotItsHalvesRow.domain false) (Rows.fnIsXMLCharTakesSurrogatePairCodeNotItsHalvesSpec.post enc Try.prog Try.f6 false true false false) := by
  refine returnsInHanded_of_change (C := Try.checked) own started (by kernel_rfl) Try.func6
    (ChangeSpec.witness6 (enc := enc) (C := Try.checked) false ⟨#[], #[.int .i32 0, .int .i32 0], []⟩ 8 (by kernel_rfl) (by kernel_rfl) (by kernel_rfl) (by kernel_rfl)) ?_
  intro W base args ds gs before hval0 hW hcnd _
  have hval : ∀ (j : Nat) t v, Try.f6.params[j]? = some t → args[j]? = some v → Value.okWide Try.prog W .any base t v := hval0
  have hW' := hW
  obtain ⟨p, q, hA0, hV, rfl, hfz, hnd⟩ := hW
  have hA : DataW.TrodAll enc Try.prog W 0 (fun _ => true) true Try.f6.params.toList args.toList ds p := hA0
  rw [Try.params6] at hA hval
  obtain ⟨v0, vs0, d0, ds0, p0, q0, hargs, rfl, rfl, h0, r0⟩ := trodAll_cons hA
  obtain ⟨v1, vs1, d1, ds1, p1, q1, rfl, rfl, rfl, h1, r1⟩ := trodAll_cons r0
  obtain ⟨rfl, rfl, rfl⟩ := trodAll_nil r1
  obtain rfl : args = #[v0, v1] := by cases args; simp_all
  obtain ⟨rfl, rfl⟩ := trodVars_none hV
  obtain ⟨a0, rfl, rfl, rfl, w0⟩ := open_int Try.underlying21 (hval 0 21 v0 rfl rfl) h0
  obtain ⟨a1, rfl, rfl, rfl, w1⟩ := open_int Try.underlying21 (hval 1 21 v1 rfl rfl) h1
  clear hA0 hval0
  simp only [List.append_nil] at hW'
  refine (walk a0 a1 w0 w1 W).mono fun e W' ⟨he, hg⟩ => ?_
  subst he
  exact ⟨_, rfl, post_of_same (pa := []) (pv := []) hW' (fun _ _ _ => (trodAll_cons_mk (shut_bool Try.underlying4 _) trodAll_mk0)) (fun sp _ => (trodAll_cons_mk (shut_int Try.underlying21 w0) (trodAll_cons_mk (shut_int Try.underlying21 w1) trodAll_mk0))) (fun _ _ => rfl) rfl
    (hg.frame _) hg.2.1 (ok_one (by kernel_rfl) rfl (okWide_bool_mk Try.underlying4 _))⟩

theorem over : Rows.fnIsXMLCharTakesSurrogatePairCodeNotItsHalvesRow.holds Try.pinned (OpenSpec.ofChange Rows.fnIsXMLCharTakesSurrogatePairCodeNotItsHalvesSpec) :=
  OpenClaim.holds_of_wide 6 Try.f6 rfl rfl rfl rfl rfl rfl rfl ⟨rfl, rfl, rfl, rfl, rfl⟩ rfl rfl rfl rfl rfl (by kernel_rfl) Try.func6 (by kernel_rfl)
    (of_decide_eq_true (by kernel_rfl)) (by unfold Func.isWrapper; first | (rw [if_pos (by decide +kernel)]; kernel_rfl) | (rw [if_neg (by decide +kernel)]; exact ⟨rfl, rfl⟩))
    (fun os started H enc _ => lifted os started H enc)

/-- ████ THE STATEMENT ████ -/
theorem proved : Rows.FnIsXMLCharTakesSurrogatePairCodeNotItsHalvesSaid :=
  over
#print axioms proved
end Go.Proofs.Qxb6614202a.fnIsXMLCharTakesSurrogatePairCodeNotItsHalves
