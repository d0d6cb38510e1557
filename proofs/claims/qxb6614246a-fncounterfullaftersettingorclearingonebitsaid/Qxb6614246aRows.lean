/-
  No cell of these rows narrows 'for every input' (looked for: loops, veiled, ifaces, maps, wideKeys, modest, calm, conditions, laid).
  DERIVED. THE GIVEN ROWS OF THIS SEAT. 4 by the template 'for every input the law returns true; each argument reads behind the call as it read before'; 0 by the template 'total and deterministic' (their statements: Qxb6614246aTotals.lean).
  GIVEN WITH THE SEED: the statements are not yours to turn. If you find one false, say at which input.
  Laid BY PROGRAM, IN A SANDBOX (cutbox-rows.mjs): the forced cells as the released guide's own fill.sh prints them over the translation cc82aa20a6c08fa1… (all of the seat's roots in one cut). By AI agents, Wed Nov 11 2026. No macro, syntax, notation, axiom, sorry.
-/
import Derived.Test.Qxb6614246aChecked
import GoSem.Claim
import GoSem.ClaimJoined
import GoSem.ClaimMapViews
import Derived.JoinedTies
import Derived.KernelRfl
namespace Go.Proofs.Qxb6614246a
/- THE CELL 'sum', in the pinned program and in every row, IS THE sha256 OF THE DUMP (.gsa) THAT Qxb6614246aProg.lean LOADS. Nothing in Lean hashes anything: it is a label: what it is worth is what the hold of that sum in a sandbox is worth. -/
noncomputable def Try.pinned : Pinned := { name := "qxb6614246a", sum := "cc82aa20a6c08fa1756d9259f1e9dec39f31a981a4cff7c384a646e8359d6c30", checked := Try.checked }
namespace Rows
def none {H : Type} : Left H := { results := [], args := [] }

/-- 'zzlaws_root_b1.FnOnEndpointInsertedLinkIsFoundAndNothingElseChanges': WHATEVER THE INPUT: true; the input reads as it did. -/
def fnOnEndpointInsertedLinkIsFoundAndNothingElseChangesSpec : ChangeSpec := { name := "fnOnEndpointInsertedLinkIsFoundAndNothingElseChanges", fn := fun _ => fun
  | [d1, d2, d3, d4, d5] => { results := [.lit (.bool true)], args := [d1, d2, d3, d4, d5] }
  | _ => none }
def fnOnEndpointInsertedLinkIsFoundAndNothingElseChangesRow : OpenClaim := { program := "qxb6614246a", sum := "cc82aa20a6c08fa1756d9259f1e9dec39f31a981a4cff7c384a646e8359d6c30", func := "example.com/leafwire/leafwire/zzlaws_root_b1.FnOnEndpointInsertedLinkIsFoundAndNothingElseChanges", spec := "fnOnEndpointInsertedLinkIsFoundAndNothingElseChanges", unfollowed := true, recurses := true, apart := false }
def FnOnEndpointInsertedLinkIsFoundAndNothingElseChangesSaid : Prop := fnOnEndpointInsertedLinkIsFoundAndNothingElseChangesRow.holds Try.pinned (OpenSpec.ofChange fnOnEndpointInsertedLinkIsFoundAndNothingElseChangesSpec)

/-- ITS FALSE NEIGHBOUR: 'it returns false'. Refute it at one input. -/
def fnOnEndpointInsertedLinkIsFoundAndNothingElseChangesWrong : ChangeSpec := { name := "fnOnEndpointInsertedLinkIsFoundAndNothingElseChanges", fn := fun _ => fun
  | [d1, d2, d3, d4, d5] => { results := [.lit (.bool false)], args := [d1, d2, d3, d4, d5] }
  | _ => none }
def FnOnEndpointInsertedLinkIsFoundAndNothingElseChangesWrongFalsely : Prop := fnOnEndpointInsertedLinkIsFoundAndNothingElseChangesRow.holds Try.pinned (OpenSpec.ofChange fnOnEndpointInsertedLinkIsFoundAndNothingElseChangesWrong)

/-- 'zzlaws_root_b1.FnOnEndpointAgreesAcrossAnyCut': WHATEVER THE INPUT: true; the input reads as it did. -/
def fnOnEndpointAgreesAcrossAnyCutSpec : ChangeSpec := { name := "fnOnEndpointAgreesAcrossAnyCut", fn := fun _ => fun
  | [d1, d2, d3] => { results := [.lit (.bool true)], args := [d1, d2, d3] }
  | _ => none }
def fnOnEndpointAgreesAcrossAnyCutRow : OpenClaim := { program := "qxb6614246a", sum := "cc82aa20a6c08fa1756d9259f1e9dec39f31a981a4cff7c384a646e8359d6c30", func := "example.com/leafwire/leafwire/zzlaws_root_b1.FnOnEndpointAgreesAcrossAnyCut", spec := "fnOnEndpointAgreesAcrossAnyCut", unfollowed := true, recurses := true, apart := false }
def FnOnEndpointAgreesAcrossAnyCutSaid : Prop := fnOnEndpointAgreesAcrossAnyCutRow.holds Try.pinned (OpenSpec.ofChange fnOnEndpointAgreesAcrossAnyCutSpec)

/-- ITS FALSE NEIGHBOUR: 'it returns false'. Refute it at one input. -/
def fnOnEndpointAgreesAcrossAnyCutWrong : ChangeSpec := { name := "fnOnEndpointAgreesAcrossAnyCut", fn := fun _ => fun
  | [d1, d2, d3] => { results := [.lit (.bool false)], args := [d1, d2, d3] }
  | _ => none }
def FnOnEndpointAgreesAcrossAnyCutWrongFalsely : Prop := fnOnEndpointAgreesAcrossAnyCutRow.holds Try.pinned (OpenSpec.ofChange fnOnEndpointAgreesAcrossAnyCutWrong)

/-- 'zzlaws_root_b1.FnCounterFullIffComplementEmpty': WHATEVER THE INPUT: true; the input reads as it did. -/
def fnCounterFullIffComplementEmptySpec : ChangeSpec := { name := "fnCounterFullIffComplementEmpty", fn := fun _ => fun
  | [d1, d2] => { results := [.lit (.bool true)], args := [d1, d2] }
  | _ => none }
def fnCounterFullIffComplementEmptyRow : OpenClaim := { program := "qxb6614246a", sum := "cc82aa20a6c08fa1756d9259f1e9dec39f31a981a4cff7c384a646e8359d6c30", func := "example.com/leafwire/leafwire/zzlaws_root_b1.FnCounterFullIffComplementEmpty", spec := "fnCounterFullIffComplementEmpty", apart := false }
def FnCounterFullIffComplementEmptySaid : Prop := fnCounterFullIffComplementEmptyRow.holds Try.pinned (OpenSpec.ofChange fnCounterFullIffComplementEmptySpec)

/-- ITS FALSE NEIGHBOUR: 'it returns false'. Refute it at one input. -/
def fnCounterFullIffComplementEmptyWrong : ChangeSpec := { name := "fnCounterFullIffComplementEmpty", fn := fun _ => fun
  | [d1, d2] => { results := [.lit (.bool false)], args := [d1, d2] }
  | _ => none }
def FnCounterFullIffComplementEmptyWrongFalsely : Prop := fnCounterFullIffComplementEmptyRow.holds Try.pinned (OpenSpec.ofChange fnCounterFullIffComplementEmptyWrong)

/-- 'zzlaws_root_b1.FnCounterFullAfterSettingOrClearingOneBit': WHATEVER THE INPUT: true; the input reads as it did. -/
def fnCounterFullAfterSettingOrClearingOneBitSpec : ChangeSpec := { name := "fnCounterFullAfterSettingOrClearingOneBit", fn := fun _ => fun
  | [d1, d2, d3] => { results := [.lit (.bool true)], args := [d1, d2, d3] }
  | _ => none }
def fnCounterFullAfterSettingOrClearingOneBitRow : OpenClaim := { program := "qxb6614246a", sum := "cc82aa20a6c08fa1756d9259f1e9dec39f31a981a4cff7c384a646e8359d6c30", func := "example.com/leafwire/leafwire/zzlaws_root_b1.FnCounterFullAfterSettingOrClearingOneBit", spec := "fnCounterFullAfterSettingOrClearingOneBit", apart := false }
def FnCounterFullAfterSettingOrClearingOneBitSaid : Prop := fnCounterFullAfterSettingOrClearingOneBitRow.holds Try.pinned (OpenSpec.ofChange fnCounterFullAfterSettingOrClearingOneBitSpec)

/-- ITS FALSE NEIGHBOUR: 'it returns false'. Refute it at one input. -/
def fnCounterFullAfterSettingOrClearingOneBitWrong : ChangeSpec := { name := "fnCounterFullAfterSettingOrClearingOneBit", fn := fun _ => fun
  | [d1, d2, d3] => { results := [.lit (.bool false)], args := [d1, d2, d3] }
  | _ => none }
def FnCounterFullAfterSettingOrClearingOneBitWrongFalsely : Prop := fnCounterFullAfterSettingOrClearingOneBitRow.holds Try.pinned (OpenSpec.ofChange fnCounterFullAfterSettingOrClearingOneBitWrong)

end Rows
end Go.Proofs.Qxb6614246a
