/-
  No cell of these rows narrows 'for every input' (looked for: loops, veiled, ifaces, maps, wideKeys, modest, calm, conditions, laid).
  DERIVED. THE GIVEN ROWS OF THIS SEAT. 4 by the template 'for every input the law returns true; each argument reads behind the call as it read before'; 0 by the template 'total and deterministic' (their statements: Qxb6614202aTotals.lean).
  GIVEN WITH THE SEED: the statements are not yours to turn. If you find one false, say at which input.
  Laid BY PROGRAM, IN A SANDBOX (cutbox-rows.mjs): the forced cells as the released guide's own fill.sh prints them over the translation 9d22d5e40b4a60dc… (all of the seat's roots in one cut). By AI agents, Wed Nov 11 2026. No macro, syntax, notation, axiom, sorry.
-/
import Derived.Test.Qxb6614202aChecked
import GoSem.Claim
import GoSem.ClaimJoined
import GoSem.ClaimMapViews
import Derived.JoinedTies
import Derived.KernelRfl
namespace Go.Proofs.Qxb6614202a
/- THE CELL 'sum', in the pinned program and in every row, IS THE sha256 OF THE DUMP (.gsa) THAT Qxb6614202aProg.lean LOADS. Nothing in Lean hashes anything: it is a label: what it is worth is what the hold of that sum in a sandbox is worth. -/
noncomputable def Try.pinned : Pinned := { name := "qxb6614202a", sum := "9d22d5e40b4a60dcaeb013e919519fa6be50128c626bf5017f376a90dcd452f0", checked := Try.checked }
namespace Rows
def none {H : Type} : Left H := { results := [], args := [] }

/-- 'zzlaws_pkg_awsapi_b1.FnGoStringEqualExactlyWhenAccessKeysEqual': WHATEVER THE INPUT: true; the input reads as it did. -/
def fnGoStringEqualExactlyWhenAccessKeysEqualSpec : ChangeSpec := { name := "fnGoStringEqualExactlyWhenAccessKeysEqual", fn := fun _ => fun
  | [d1, d2, d3, d4, d5, d6] => { results := [.lit (.bool true)], args := [d1, d2, d3, d4, d5, d6] }
  | _ => none }
def fnGoStringEqualExactlyWhenAccessKeysEqualRow : OpenClaim := { program := "qxb6614202a", sum := "9d22d5e40b4a60dcaeb013e919519fa6be50128c626bf5017f376a90dcd452f0", func := "example.com/vouchsafe/vouchsafe/zzlaws_pkg_awsapi_b1.FnGoStringEqualExactlyWhenAccessKeysEqual", spec := "fnGoStringEqualExactlyWhenAccessKeysEqual", apart := false }
def FnGoStringEqualExactlyWhenAccessKeysEqualSaid : Prop := fnGoStringEqualExactlyWhenAccessKeysEqualRow.holds Try.pinned (OpenSpec.ofChange fnGoStringEqualExactlyWhenAccessKeysEqualSpec)

/-- ITS FALSE NEIGHBOUR: 'it returns false'. Refute it at one input. -/
def fnGoStringEqualExactlyWhenAccessKeysEqualWrong : ChangeSpec := { name := "fnGoStringEqualExactlyWhenAccessKeysEqual", fn := fun _ => fun
  | [d1, d2, d3, d4, d5, d6] => { results := [.lit (.bool false)], args := [d1, d2, d3, d4, d5, d6] }
  | _ => none }
def FnGoStringEqualExactlyWhenAccessKeysEqualWrongFalsely : Prop := fnGoStringEqualExactlyWhenAccessKeysEqualRow.holds Try.pinned (OpenSpec.ofChange fnGoStringEqualExactlyWhenAccessKeysEqualWrong)

/-- 'zzlaws_pkg_awsapi_b1.FnGoStringFramesAccessKeyInFixedText': WHATEVER THE INPUT: true; the input reads as it did. -/
def fnGoStringFramesAccessKeyInFixedTextSpec : ChangeSpec := { name := "fnGoStringFramesAccessKeyInFixedText", fn := fun _ => fun
  | [d1, d2, d3, d4, d5, d6] => { results := [.lit (.bool true)], args := [d1, d2, d3, d4, d5, d6] }
  | _ => none }
def fnGoStringFramesAccessKeyInFixedTextRow : OpenClaim := { program := "qxb6614202a", sum := "9d22d5e40b4a60dcaeb013e919519fa6be50128c626bf5017f376a90dcd452f0", func := "example.com/vouchsafe/vouchsafe/zzlaws_pkg_awsapi_b1.FnGoStringFramesAccessKeyInFixedText", spec := "fnGoStringFramesAccessKeyInFixedText", apart := false }
def FnGoStringFramesAccessKeyInFixedTextSaid : Prop := fnGoStringFramesAccessKeyInFixedTextRow.holds Try.pinned (OpenSpec.ofChange fnGoStringFramesAccessKeyInFixedTextSpec)

/-- ITS FALSE NEIGHBOUR: 'it returns false'. Refute it at one input. -/
def fnGoStringFramesAccessKeyInFixedTextWrong : ChangeSpec := { name := "fnGoStringFramesAccessKeyInFixedText", fn := fun _ => fun
  | [d1, d2, d3, d4, d5, d6] => { results := [.lit (.bool false)], args := [d1, d2, d3, d4, d5, d6] }
  | _ => none }
def FnGoStringFramesAccessKeyInFixedTextWrongFalsely : Prop := fnGoStringFramesAccessKeyInFixedTextRow.holds Try.pinned (OpenSpec.ofChange fnGoStringFramesAccessKeyInFixedTextWrong)

/-- 'zzlaws_pkg_awsapi_b1.FnIsXMLCharIsScalarValueLessControlsAndFFFE': WHATEVER THE INPUT: true; the input reads as it did. -/
def fnIsXMLCharIsScalarValueLessControlsAndFFFESpec : ChangeSpec := { name := "fnIsXMLCharIsScalarValueLessControlsAndFFFE", fn := fun _ => fun
  | [d] => { results := [.lit (.bool true)], args := [d] }
  | _ => none }
def fnIsXMLCharIsScalarValueLessControlsAndFFFERow : OpenClaim := { program := "qxb6614202a", sum := "9d22d5e40b4a60dcaeb013e919519fa6be50128c626bf5017f376a90dcd452f0", func := "example.com/vouchsafe/vouchsafe/zzlaws_pkg_awsapi_b1.FnIsXMLCharIsScalarValueLessControlsAndFFFE", spec := "fnIsXMLCharIsScalarValueLessControlsAndFFFE", apart := false }
def FnIsXMLCharIsScalarValueLessControlsAndFFFESaid : Prop := fnIsXMLCharIsScalarValueLessControlsAndFFFERow.holds Try.pinned (OpenSpec.ofChange fnIsXMLCharIsScalarValueLessControlsAndFFFESpec)

/-- ITS FALSE NEIGHBOUR: 'it returns false'. Refute it at one input. -/
def fnIsXMLCharIsScalarValueLessControlsAndFFFEWrong : ChangeSpec := { name := "fnIsXMLCharIsScalarValueLessControlsAndFFFE", fn := fun _ => fun
  | [d] => { results := [.lit (.bool false)], args := [d] }
  | _ => none }
def FnIsXMLCharIsScalarValueLessControlsAndFFFEWrongFalsely : Prop := fnIsXMLCharIsScalarValueLessControlsAndFFFERow.holds Try.pinned (OpenSpec.ofChange fnIsXMLCharIsScalarValueLessControlsAndFFFEWrong)

/-- 'zzlaws_pkg_awsapi_b1.FnIsXMLCharTakesSurrogatePairCodeNotItsHalves': WHATEVER THE INPUT: true; the input reads as it did. -/
def fnIsXMLCharTakesSurrogatePairCodeNotItsHalvesSpec : ChangeSpec := { name := "fnIsXMLCharTakesSurrogatePairCodeNotItsHalves", fn := fun _ => fun
  | [d1, d2] => { results := [.lit (.bool true)], args := [d1, d2] }
  | _ => none }
def fnIsXMLCharTakesSurrogatePairCodeNotItsHalvesRow : OpenClaim := { program := "qxb6614202a", sum := "9d22d5e40b4a60dcaeb013e919519fa6be50128c626bf5017f376a90dcd452f0", func := "example.com/vouchsafe/vouchsafe/zzlaws_pkg_awsapi_b1.FnIsXMLCharTakesSurrogatePairCodeNotItsHalves", spec := "fnIsXMLCharTakesSurrogatePairCodeNotItsHalves", apart := false }
def FnIsXMLCharTakesSurrogatePairCodeNotItsHalvesSaid : Prop := fnIsXMLCharTakesSurrogatePairCodeNotItsHalvesRow.holds Try.pinned (OpenSpec.ofChange fnIsXMLCharTakesSurrogatePairCodeNotItsHalvesSpec)

/-- ITS FALSE NEIGHBOUR: 'it returns false'. Refute it at one input. -/
def fnIsXMLCharTakesSurrogatePairCodeNotItsHalvesWrong : ChangeSpec := { name := "fnIsXMLCharTakesSurrogatePairCodeNotItsHalves", fn := fun _ => fun
  | [d1, d2] => { results := [.lit (.bool false)], args := [d1, d2] }
  | _ => none }
def FnIsXMLCharTakesSurrogatePairCodeNotItsHalvesWrongFalsely : Prop := fnIsXMLCharTakesSurrogatePairCodeNotItsHalvesRow.holds Try.pinned (OpenSpec.ofChange fnIsXMLCharTakesSurrogatePairCodeNotItsHalvesWrong)

end Rows
end Go.Proofs.Qxb6614202a
