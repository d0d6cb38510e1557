/- The proof of 'Rows.FnIsXMLCharIsScalarValueLessControlsAndFFFESaid', in the frame that the kit's skeleton tool wrote. -/
import Derived.Test.Qxb6614202aRows
import Derived.WalkKit
import Derived.ProofKit
import Derived.OpenShut
import Derived.ShutString
namespace Go.Proofs.Qxb6614202a.fnIsXMLCharIsScalarValueLessControlsAndFFFE
open Go.ChangeShapes Go.WideShapes Go.ChangeAt Go.RowKit
open Go.ChangeMaps (open_string shut_string)
set_option linter.unusedVariables false      -- a walk need not use every 'w<i>' (that an integer argument fits its kind)

theorem own : ownKnob Try.prog.godebug = none := by kernel_rfl

/-- What isXMLChar answers. -/
def xmlB (c : Int) : Bool := decide (c = 9 ∨ c = 10 ∨ c = 13 ∨ (32 ≤ c ∧ c ≤ 55295) ∨ (57344 ≤ c ∧ c ≤ 65533) ∨ (65536 ≤ c ∧ c ≤ 1114111))

set_option maxHeartbeats 1000000 in
set_option maxRecDepth 100000 in
theorem xml_yes (c : Int) (w : World) (h : xmlB c = true) : Calls Try.prog 13 #[.int .i32 c] w fun e w' => e = .returned (.bool true) ∧ w = w' := by
  have h' := of_decide_eq_true h
  clear h
  rcases h' with h | h | h | ⟨h, h2⟩ | ⟨h, h2⟩ | ⟨h, h2⟩
  · subst h
    go_enter Try.func13, Try.ntmps13
    go_wp2
    go_ret
    exact ⟨rfl, rfl⟩
  · subst h
    go_enter Try.func13, Try.ntmps13
    go_wp2
    go_ret
    exact ⟨rfl, rfl⟩
  · subst h
    go_enter Try.func13, Try.ntmps13
    go_wp2
    go_ret
    exact ⟨rfl, rfl⟩
  all_goals
    go_enter Try.func13, Try.ntmps13
    go_wp2
    go_ret
    exact ⟨rfl, rfl⟩

set_option maxHeartbeats 1000000 in
set_option maxRecDepth 100000 in
theorem xml_no (c : Int) (w : World) (h : xmlB c = false) : Calls Try.prog 13 #[.int .i32 c] w fun e w' => e = .returned (.bool false) ∧ w = w' := by
  have h' := of_decide_eq_false h
  clear h
  have n1 : (c == 9) = false := by simp; omega
  have n2 : (c == 10) = false := by simp; omega
  have n3 : (c == 13) = false := by simp; omega
  rcases (show c < 32 ∨ (55296 ≤ c ∧ c < 57344) ∨ (65534 ≤ c ∧ c < 65536) ∨ 1114112 ≤ c by omega) with h | ⟨h, h2⟩ | ⟨h, h2⟩ | h
  · have f0 : decide ((32 : Int) ≤ c) = false := by simp; omega
    have f1 : decide (c ≤ (55295 : Int)) = true := by simp; omega
    have f2 : decide ((57344 : Int) ≤ c) = false := by simp; omega
    have f3 : decide (c ≤ (65533 : Int)) = true := by simp; omega
    have f4 : decide ((65536 : Int) ≤ c) = false := by simp; omega
    have f5 : decide (c ≤ (1114111 : Int)) = true := by simp; omega
    clear h'
    go_enter Try.func13, Try.ntmps13
    go_wp2
    go_ret
    exact ⟨rfl, rfl⟩
  · have f0 : decide ((32 : Int) ≤ c) = true := by simp; omega
    have f1 : decide (c ≤ (55295 : Int)) = false := by simp; omega
    have f2 : decide ((57344 : Int) ≤ c) = false := by simp; omega
    have f3 : decide (c ≤ (65533 : Int)) = true := by simp; omega
    have f4 : decide ((65536 : Int) ≤ c) = false := by simp; omega
    have f5 : decide (c ≤ (1114111 : Int)) = true := by simp; omega
    clear h'
    go_enter Try.func13, Try.ntmps13
    go_wp2
    go_ret
    exact ⟨rfl, rfl⟩
  · have f0 : decide ((32 : Int) ≤ c) = true := by simp; omega
    have f1 : decide (c ≤ (55295 : Int)) = false := by simp; omega
    have f2 : decide ((57344 : Int) ≤ c) = true := by simp; omega
    have f3 : decide (c ≤ (65533 : Int)) = false := by simp; omega
    have f4 : decide ((65536 : Int) ≤ c) = false := by simp; omega
    have f5 : decide (c ≤ (1114111 : Int)) = true := by simp; omega
    clear h'
    go_enter Try.func13, Try.ntmps13
    go_wp2
    go_ret
    exact ⟨rfl, rfl⟩
  · have f0 : decide ((32 : Int) ≤ c) = true := by simp; omega
    have f1 : decide (c ≤ (55295 : Int)) = false := by simp; omega
    have f2 : decide ((57344 : Int) ≤ c) = true := by simp; omega
    have f3 : decide (c ≤ (65533 : Int)) = false := by simp; omega
    have f4 : decide ((65536 : Int) ≤ c) = true := by simp; omega
    have f5 : decide (c ≤ (1114111 : Int)) = false := by simp; omega
    clear h'
    go_enter Try.func13, Try.ntmps13
    go_wp2
    go_ret
    exact ⟨rfl, rfl⟩

/-! ### STEP 1: THE WALK -/
theorem walk (a0 : Int) (w0 : (Lit.int .i32 a0).wf = true) (w : World) :
    Calls Try.prog 5 #[.int .i32 a0] w fun e w' => e = .returned (.bool true) ∧ Grown w w' := by
  rcases (show a0 < 0 ∨ (0 ≤ a0 ∧ a0 < 32 ∧ xmlB a0 = false) ∨ (0 ≤ a0 ∧ a0 < 32 ∧ xmlB a0 = true) ∨ (32 ≤ a0 ∧ a0 ≤ 55295) ∨ (55296 ≤ a0 ∧ a0 ≤ 57343) ∨ (57344 ≤ a0 ∧ a0 ≤ 65533) ∨ a0 = 65534 ∨ a0 = 65535 ∨ (65536 ≤ a0 ∧ a0 ≤ 1114111) ∨ 1114111 < a0 from by
    cases xmlB a0 <;> simp <;> omega) with h | ⟨h, h2, hx⟩ | ⟨h, h2, hx⟩ | ⟨h, h2⟩ | ⟨h, h2⟩ | ⟨h, h2⟩ | h | h | ⟨h, h2⟩ | h
  · have n : xmlB a0 = false := decide_eq_false (by omega)
    go_enter Try.func5, Try.ntmps5
    go_wp2_with (first | (go_at_call 13; refine (xml_no _ _ n).mono ?_; rintro e w' ⟨rfl, rfl⟩) | go_in)
    go_ret
    exact ⟨rfl, by repeat (first | exact Grown.refl _ | apply Grown.drew | apply Grown.alloc)⟩
  · have hx' := of_decide_eq_false hx
    have n1 : (a0 != 9) = true := by simp; omega
    have n2 : (a0 != 10) = true := by simp; omega
    have n3 : (a0 != 13) = true := by simp; omega
    have HX : Hid (xmlB a0 = false) := hx
    clear hx' hx
    go_enter Try.func5, Try.ntmps5
    go_wp2_with (first | (go_at_call 13; refine (xml_no _ _ HX.out).mono ?_; rintro e w' ⟨rfl, rfl⟩) | go_in)
    go_ret
    exact ⟨rfl, by repeat (first | exact Grown.refl _ | apply Grown.drew | apply Grown.alloc)⟩
  · have hx' := of_decide_eq_true hx
    have HX : Hid (xmlB a0 = true) := hx
    clear hx
    rcases (show a0 = 9 ∨ a0 = 10 ∨ a0 = 13 by omega) with e | e | e
    all_goals
      subst e
      clear hx'
      go_enter Try.func5, Try.ntmps5
      go_wp2_with (first | (go_at_call 13; refine (xml_yes _ _ HX.out).mono ?_; rintro e w' ⟨rfl, rfl⟩) | go_in)
      go_ret
      exact ⟨rfl, by repeat (first | exact Grown.refl _ | apply Grown.drew | apply Grown.alloc)⟩
  · have n : xmlB a0 = true := decide_eq_true (by omega)
    have n1 : (a0 == 65534) = false := by simp; omega
    have n2 : (a0 == 65535) = false := by simp; omega
    go_enter Try.func5, Try.ntmps5
    go_wp2_with (first | (go_at_call 13; refine (xml_yes _ _ n).mono ?_; rintro e w' ⟨rfl, rfl⟩) | go_in)
    go_ret
    exact ⟨rfl, by repeat (first | exact Grown.refl _ | apply Grown.drew | apply Grown.alloc)⟩
  · have n : xmlB a0 = false := decide_eq_false (by omega)
    go_enter Try.func5, Try.ntmps5
    go_wp2_with (first | (go_at_call 13; refine (xml_no _ _ n).mono ?_; rintro e w' ⟨rfl, rfl⟩) | go_in)
    go_ret
    exact ⟨rfl, by repeat (first | exact Grown.refl _ | apply Grown.drew | apply Grown.alloc)⟩
  · have n : xmlB a0 = true := decide_eq_true (by omega)
    have n1 : (a0 == 65534) = false := by simp; omega
    have n2 : (a0 == 65535) = false := by simp; omega
    have n4 : decide (a0 ≤ (57343 : Int)) = false := by simp; omega
    go_enter Try.func5, Try.ntmps5
    go_wp2_with (first | (go_at_call 13; refine (xml_yes _ _ n).mono ?_; rintro e w' ⟨rfl, rfl⟩) | go_in)
    go_ret
    exact ⟨rfl, by repeat (first | exact Grown.refl _ | apply Grown.drew | apply Grown.alloc)⟩
  · subst h
    have n : Hid (xmlB 65534 = false) := decide_eq_false (by omega)
    go_enter Try.func5, Try.ntmps5
    go_wp2_with (first | (go_at_call 13; refine (xml_no _ _ n.out).mono ?_; rintro e w' ⟨rfl, rfl⟩) | go_in)
    go_ret
    exact ⟨rfl, by repeat (first | exact Grown.refl _ | apply Grown.drew | apply Grown.alloc)⟩
  · subst h
    have n : Hid (xmlB 65535 = false) := decide_eq_false (by omega)
    go_enter Try.func5, Try.ntmps5
    go_wp2_with (first | (go_at_call 13; refine (xml_no _ _ n.out).mono ?_; rintro e w' ⟨rfl, rfl⟩) | go_in)
    go_ret
    exact ⟨rfl, by repeat (first | exact Grown.refl _ | apply Grown.drew | apply Grown.alloc)⟩
  · have n : xmlB a0 = true := decide_eq_true (by omega)
    have n1 : (a0 == 65534) = false := by simp; omega
    have n2 : (a0 == 65535) = false := by simp; omega
    have n4 : decide (a0 ≤ (57343 : Int)) = false := by simp; omega
    go_enter Try.func5, Try.ntmps5
    go_wp2_with (first | (go_at_call 13; refine (xml_yes _ _ n).mono ?_; rintro e w' ⟨rfl, rfl⟩) | go_in)
    go_ret
    exact ⟨rfl, by repeat (first | exact Grown.refl _ | apply Grown.drew | apply Grown.alloc)⟩
  · have n : xmlB a0 = false := decide_eq_false (by omega)
    go_enter Try.func5, Try.ntmps5
    go_wp2_with (first | (go_at_call 13; refine (xml_no _ _ n).mono ?_; rintro e w' ⟨rfl, rfl⟩) | go_in)
    go_ret
    exact ⟨rfl, by repeat (first | exact Grown.refl _ | apply Grown.drew | apply Grown.alloc)⟩

/-! ### THE ROW's STEP: WRITTEN OUT: LEAVE IT -/
set_option maxRecDepth 100000 in
theorem lifted (os : Os) (started : os.Started) (H : Type) (enc : TypeId × Value → H) :
    ReturnsInHanded {} Try.checked os 5 .any (Rows.fnIsXMLCharIsScalarValueLessControlsAndFFFESpec.pre6 enc Try.prog Try.f5 Rows.fnIsXMLCharIsScalarValueLessControlsAndFFFERow.domain false) (Rows.fnIsXMLCharIsScalarValueLessControlsAndFFFESpec.post enc Try.prog Try.f5 false true false false) := by
  refine returnsInHanded_of_change (C := Try.checked) own started (by kernel_rfl) Try.func5
    (ChangeSpec.witness6 (enc := enc) (C := Try.checked) false ⟨#[], #[.int .i32 0], []⟩ 8 (by kernel_rfl) (by kernel_rfl) (by kernel_rfl) (by kernel_rfl)) ?_
  intro W base args ds gs before hval0 hW hcnd _
  have hval : ∀ (j : Nat) t v, Try.f5.params[j]? = some t → args[j]? = some v → Value.okWide Try.prog W .any base t v := hval0
  have hW' := hW
  obtain ⟨p, q, hA0, hV, rfl, hfz, hnd⟩ := hW
  have hA : DataW.TrodAll enc Try.prog W 0 (fun _ => true) true Try.f5.params.toList args.toList ds p := hA0
  rw [Try.params5] at hA hval
  obtain ⟨v0, vs0, d0, ds0, p0, q0, hargs, rfl, rfl, h0, r0⟩ := trodAll_cons hA
  obtain ⟨rfl, rfl, rfl⟩ := trodAll_nil r0
  obtain rfl : args = #[v0] := by cases args; simp_all
  obtain ⟨rfl, rfl⟩ := trodVars_none hV
  obtain ⟨a0, rfl, rfl, rfl, w0⟩ := open_int Try.underlying21 (hval 0 21 v0 rfl rfl) h0
  clear hA0 hval0
  simp only [List.append_nil] at hW'
  refine (walk a0 w0 W).mono fun e W' ⟨he, hg⟩ => ?_
  subst he
  exact ⟨_, rfl, post_of_same (pa := []) (pv := []) hW' (fun _ _ _ => (trodAll_cons_mk (shut_bool Try.underlying4 _) trodAll_mk0)) (fun sp _ => (trodAll_cons_mk (shut_int Try.underlying21 w0) trodAll_mk0)) (fun _ _ => rfl) rfl
    (hg.frame _) hg.2.1 (ok_one (by kernel_rfl) rfl (okWide_bool_mk Try.underlying4 _))⟩

theorem over : Rows.fnIsXMLCharIsScalarValueLessControlsAndFFFERow.holds Try.pinned (OpenSpec.ofChange Rows.fnIsXMLCharIsScalarValueLessControlsAndFFFESpec) :=
  OpenClaim.holds_of_wide 5 Try.f5 rfl rfl rfl rfl rfl rfl rfl ⟨rfl, rfl, rfl, rfl, rfl⟩ rfl rfl rfl rfl rfl (by kernel_rfl) Try.func5 (by kernel_rfl)
    (of_decide_eq_true (by kernel_rfl)) (by unfold Func.isWrapper; first | (rw [if_pos (by decide +kernel)]; kernel_rfl) | (rw [if_neg (by decide +kernel)]; exact ⟨rfl, rfl⟩))
    (fun os started H enc _ => lifted os started H enc)

/-- ████ THE STATEMENT ████ -/
theorem proved : Rows.FnIsXMLCharIsScalarValueLessControlsAndFFFESaid :=
  over
#print axioms proved
end Go.Proofs.Qxb6614202a.fnIsXMLCharIsScalarValueLessControlsAndFFFE
