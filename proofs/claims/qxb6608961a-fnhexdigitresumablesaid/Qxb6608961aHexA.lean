import Derived.Test.Qxb6608961aRows
import Derived.WalkKit
import Derived.WalkSpells
import Derived.OpenShut
import Derived.Below
namespace Go.Proofs.Qxb6608961a.hex
open Go.RowKit
set_option linter.unusedVariables false

theorem info5 : (Try.prog.info? 5).map (fun i => (i.zero, i.size, i.bytes)) = some (some (.int .u8 0), 1, 1) := by kernel_rfl

/-- The elements of a slice of bytes: what is read through it. -/
def Rd (w : World) (a : Option Addr) (zs : List Int) : Prop :=
  zs = [] ∨ ∃ b off, a = some ⟨b, off, none⟩ ∧ ∀ j, j < zs.length → w.cell? ⟨b, off + j, none⟩ = some (.int .u8 (zs.getD j 0))

/-- 7: the bound on total length, at small lengths. -/
theorem small7 (a0 a3 : Option Addr) (l0 c0 l3 c3 : Nat) (d h : Int) (w : World) (hs : l0 + l3 ≤ 1048576) :
    Calls Try.prog 7 #[.slice a0 l0 c0, .int .i64 d, .int .u8 h, .slice a3 l3 c3] w fun e w' => e = .returned (.bool true) ∧ w = w' := by
  go_enter Try.func7, Try.ntmps7
  go_wp2
  go_ret
  exact ⟨rfl, rfl⟩

theorem large7 (a0 a3 : Option Addr) (l0 c0 l3 c3 : Nat) (d h : Int) (w : World) (h0 : l0 ≤ 9223372036854775807) (h3 : l3 ≤ 9223372036854775807) (hs : ¬ l0 + l3 ≤ 1048576) :
    Calls Try.prog 7 #[.slice a0 l0 c0, .int .i64 d, .int .u8 h, .slice a3 l3 c3] w fun e w' => e = .returned (.bool false) ∧ w = w' := by
  by_cases e0 : l0 ≤ 1048576
  · by_cases e3 : l3 ≤ 1048576
    · go_enter Try.func7, Try.ntmps7
      go_wp2
      go_ret
      exact ⟨rfl, rfl⟩
    · go_enter Try.func7, Try.ntmps7
      go_wp2
      go_ret
      exact ⟨rfl, rfl⟩
  · go_enter Try.func7, Try.ntmps7
    go_wp2
    go_ret
    exact ⟨rfl, rfl⟩

theorem small13 (a0 a3 : Option Addr) (l0 c0 l3 c3 : Nat) (d h cut : Int) (w : World) (hs : l0 + l3 ≤ 1048576) :
    Calls Try.prog 13 #[.slice a0 l0 c0, .int .i64 d, .int .u8 h, .slice a3 l3 c3, .int .i64 cut] w fun e w' => e = .returned (.bool true) ∧ w = w' := by
  go_enter Try.func13, Try.ntmps13
  go_wp2
  go_ret
  exact ⟨rfl, rfl⟩

theorem large13 (a0 a3 : Option Addr) (l0 c0 l3 c3 : Nat) (d h cut : Int) (w : World) (h0 : l0 ≤ 9223372036854775807) (h3 : l3 ≤ 9223372036854775807) (hs : ¬ l0 + l3 ≤ 1048576) :
    Calls Try.prog 13 #[.slice a0 l0 c0, .int .i64 d, .int .u8 h, .slice a3 l3 c3, .int .i64 cut] w fun e w' => e = .returned (.bool false) ∧ w = w' := by
  by_cases e0 : l0 ≤ 1048576
  · by_cases e3 : l3 ≤ 1048576
    · go_enter Try.func13, Try.ntmps13
      go_wp2
      go_ret
      exact ⟨rfl, rfl⟩
    · go_enter Try.func13, Try.ntmps13
      go_wp2
      go_ret
      exact ⟨rfl, rfl⟩
  · go_enter Try.func13, Try.ntmps13
    go_wp2
    go_ret
    exact ⟨rfl, rfl⟩

end Go.Proofs.Qxb6608961a.hex
