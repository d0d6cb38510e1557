/-
  No cell of these rows narrows 'for every input' (looked for: loops, veiled, ifaces, maps, wideKeys, modest, calm, conditions, laid).
  DERIVED. THE GIVEN ROWS OF THIS SEAT. 4 by the template 'for every input the law returns true; each argument reads behind the call as it read before'; 0 by the template 'total and deterministic' (their statements: Qxb6608961aTotals.lean).
  GIVEN WITH THE SEED: the statements are not yours to turn. If you find one false, say at which input.
  Laid BY PROGRAM, IN A SANDBOX (cutbox-rows.mjs): the forced cells as the released guide's own fill.sh prints them over the translation f4ed1205a359a3de… (all of the seat's roots in one cut). By AI agents, Wed Nov 11 2026. No macro, syntax, notation, axiom, sorry.
-/
import Derived.Test.Qxb6608961aChecked
import GoSem.Claim
import GoSem.ClaimJoined
import GoSem.ClaimMapViews
import Derived.JoinedTies
import Derived.KernelRfl
namespace Go.Proofs.Qxb6608961a
/- THE CELL 'sum', in the pinned program and in every row, IS THE sha256 OF THE DUMP (.gsa) THAT Qxb6608961aProg.lean LOADS. Nothing in Lean hashes anything: it is a label: what it is worth is what the hold of that sum in a sandbox is worth. -/
noncomputable def Try.pinned : Pinned := { name := "qxb6608961a", sum := "f4ed1205a359a3dee505109553dda08edf0e7de6401b22ce2f8651ae39a62a4e", checked := Try.checked }
namespace Rows
def none {H : Type} : Left H := { results := [], args := [] }

/-- 'zzlaws_root_b1.FnHexDigitPairsNibbles': WHATEVER THE INPUT: true; the input reads as it did. -/
def fnHexDigitPairsNibblesSpec : ChangeSpec := { name := "fnHexDigitPairsNibbles", fn := fun _ => fun
  | [d1, d2, d3, d4] => { results := [.lit (.bool true)], args := [d1, d2, d3, d4] }
  | _ => none }
def fnHexDigitPairsNibblesRow : OpenClaim := { program := "qxb6608961a", sum := "f4ed1205a359a3dee505109553dda08edf0e7de6401b22ce2f8651ae39a62a4e", func := "example.com/serac/serac/zzlaws_root_b1.FnHexDigitPairsNibbles", spec := "fnHexDigitPairsNibbles", apart := false }
def FnHexDigitPairsNibblesSaid : Prop := fnHexDigitPairsNibblesRow.holds Try.pinned (OpenSpec.ofChange fnHexDigitPairsNibblesSpec)

/-- ITS FALSE NEIGHBOUR: 'it returns false'. Refute it at one input. -/
def fnHexDigitPairsNibblesWrong : ChangeSpec := { name := "fnHexDigitPairsNibbles", fn := fun _ => fun
  | [d1, d2, d3, d4] => { results := [.lit (.bool false)], args := [d1, d2, d3, d4] }
  | _ => none }
def FnHexDigitPairsNibblesWrongFalsely : Prop := fnHexDigitPairsNibblesRow.holds Try.pinned (OpenSpec.ofChange fnHexDigitPairsNibblesWrong)

/-- 'zzlaws_root_b1.FnHexDigitResumable': WHATEVER THE INPUT: true; the input reads as it did. -/
def fnHexDigitResumableSpec : ChangeSpec := { name := "fnHexDigitResumable", fn := fun _ => fun
  | [d1, d2, d3, d4, d5] => { results := [.lit (.bool true)], args := [d1, d2, d3, d4, d5] }
  | _ => none }
def fnHexDigitResumableRow : OpenClaim := { program := "qxb6608961a", sum := "f4ed1205a359a3dee505109553dda08edf0e7de6401b22ce2f8651ae39a62a4e", func := "example.com/serac/serac/zzlaws_root_b1.FnHexDigitResumable", spec := "fnHexDigitResumable", apart := false }
def FnHexDigitResumableSaid : Prop := fnHexDigitResumableRow.holds Try.pinned (OpenSpec.ofChange fnHexDigitResumableSpec)

/-- ITS FALSE NEIGHBOUR: 'it returns false'. Refute it at one input. -/
def fnHexDigitResumableWrong : ChangeSpec := { name := "fnHexDigitResumable", fn := fun _ => fun
  | [d1, d2, d3, d4, d5] => { results := [.lit (.bool false)], args := [d1, d2, d3, d4, d5] }
  | _ => none }
def FnHexDigitResumableWrongFalsely : Prop := fnHexDigitResumableRow.holds Try.pinned (OpenSpec.ofChange fnHexDigitResumableWrong)

/-- 'zzlaws_root_b1.FnCheckIndicesCut': WHATEVER THE INPUT: true; the input reads as it did. -/
def fnCheckIndicesCutSpec : ChangeSpec := { name := "fnCheckIndicesCut", fn := fun _ => fun
  | [d1, d2, d3, d4, d5] => { results := [.lit (.bool true)], args := [d1, d2, d3, d4, d5] }
  | _ => none }
def fnCheckIndicesCutRow : OpenClaim := { program := "qxb6608961a", sum := "f4ed1205a359a3dee505109553dda08edf0e7de6401b22ce2f8651ae39a62a4e", func := "example.com/serac/serac/zzlaws_root_b1.FnCheckIndicesCut", spec := "fnCheckIndicesCut", unfollowed := true, recurses := true, apart := false }
def FnCheckIndicesCutSaid : Prop := fnCheckIndicesCutRow.holds Try.pinned (OpenSpec.ofChange fnCheckIndicesCutSpec)

/-- ITS FALSE NEIGHBOUR: 'it returns false'. Refute it at one input. -/
def fnCheckIndicesCutWrong : ChangeSpec := { name := "fnCheckIndicesCut", fn := fun _ => fun
  | [d1, d2, d3, d4, d5] => { results := [.lit (.bool false)], args := [d1, d2, d3, d4, d5] }
  | _ => none }
def FnCheckIndicesCutWrongFalsely : Prop := fnCheckIndicesCutRow.holds Try.pinned (OpenSpec.ofChange fnCheckIndicesCutWrong)

/-- 'zzlaws_root_b1.FnCheckIndicesNeverBothWays': WHATEVER THE INPUT: true; the input reads as it did. -/
def fnCheckIndicesNeverBothWaysSpec : ChangeSpec := { name := "fnCheckIndicesNeverBothWays", fn := fun _ => fun
  | [d1, d2, d3, d4] => { results := [.lit (.bool true)], args := [d1, d2, d3, d4] }
  | _ => none }
def fnCheckIndicesNeverBothWaysRow : OpenClaim := { program := "qxb6608961a", sum := "f4ed1205a359a3dee505109553dda08edf0e7de6401b22ce2f8651ae39a62a4e", func := "example.com/serac/serac/zzlaws_root_b1.FnCheckIndicesNeverBothWays", spec := "fnCheckIndicesNeverBothWays", unfollowed := true, recurses := true, apart := false }
def FnCheckIndicesNeverBothWaysSaid : Prop := fnCheckIndicesNeverBothWaysRow.holds Try.pinned (OpenSpec.ofChange fnCheckIndicesNeverBothWaysSpec)

/-- ITS FALSE NEIGHBOUR: 'it returns false'. Refute it at one input. -/
def fnCheckIndicesNeverBothWaysWrong : ChangeSpec := { name := "fnCheckIndicesNeverBothWays", fn := fun _ => fun
  | [d1, d2, d3, d4] => { results := [.lit (.bool false)], args := [d1, d2, d3, d4] }
  | _ => none }
def FnCheckIndicesNeverBothWaysWrongFalsely : Prop := fnCheckIndicesNeverBothWaysRow.holds Try.pinned (OpenSpec.ofChange fnCheckIndicesNeverBothWaysWrong)

end Rows
end Go.Proofs.Qxb6608961a
