/-
  No cell of these rows narrows 'for every input' (looked for: loops, veiled, ifaces, maps, wideKeys, modest, calm, conditions, laid).
  DERIVED. THE GIVEN ROWS OF THIS SEAT. 2 by the template 'for every input the law returns true; each argument reads behind the call as it read before'; 0 by the template 'total and deterministic' (their statements: Qxb6612203aTotals.lean).
  GIVEN WITH THE SEED: the statements are not yours to turn. If you find one false, say at which input.
  Laid BY PROGRAM, IN A SANDBOX (cutbox-rows.mjs): the forced cells as the released guide's own fill.sh prints them over the translation 9de5526cccbdc423… (all of the seat's roots in one cut). By AI agents, Wed Nov 11 2026. No macro, syntax, notation, axiom, sorry.
-/
import Derived.Test.Qxb6612203aChecked
import GoSem.Claim
import GoSem.ClaimJoined
import GoSem.ClaimMapViews
import Derived.JoinedTies
import Derived.KernelRfl
namespace Go.Proofs.Qxb6612203a
/- THE CELL 'sum', in the pinned program and in every row, IS THE sha256 OF THE DUMP (.gsa) THAT Qxb6612203aProg.lean LOADS. Nothing in Lean hashes anything: it is a label: what it is worth is what the hold of that sum in a sandbox is worth. -/
noncomputable def Try.pinned : Pinned := { name := "qxb6612203a", sum := "9de5526cccbdc4232e669de24cc79674eec6cd5d39d3e5b82ca1fe1eecd78840", checked := Try.checked }
namespace Rows
def none {H : Type} : Left H := { results := [], args := [] }

/-- 'zzlaws_tfs_b1.FnScheduleDueIsFloorOfKSecondsOverRate': WHATEVER THE INPUT: true; the input reads as it did. -/
def fnScheduleDueIsFloorOfKSecondsOverRateSpec : ChangeSpec := { name := "fnScheduleDueIsFloorOfKSecondsOverRate", fn := fun _ => fun
  | [d1, d2] => { results := [.lit (.bool true)], args := [d1, d2] }
  | _ => none }
def fnScheduleDueIsFloorOfKSecondsOverRateRow : OpenClaim := { program := "qxb6612203a", sum := "9de5526cccbdc4232e669de24cc79674eec6cd5d39d3e5b82ca1fe1eecd78840", func := "example.com/pacewire/pacewire/zzlaws_tfs_b1.FnScheduleDueIsFloorOfKSecondsOverRate", spec := "fnScheduleDueIsFloorOfKSecondsOverRate", apart := false }
def FnScheduleDueIsFloorOfKSecondsOverRateSaid : Prop := fnScheduleDueIsFloorOfKSecondsOverRateRow.holds Try.pinned (OpenSpec.ofChange fnScheduleDueIsFloorOfKSecondsOverRateSpec)

/-- ITS FALSE NEIGHBOUR: 'it returns false'. Refute it at one input. -/
def fnScheduleDueIsFloorOfKSecondsOverRateWrong : ChangeSpec := { name := "fnScheduleDueIsFloorOfKSecondsOverRate", fn := fun _ => fun
  | [d1, d2] => { results := [.lit (.bool false)], args := [d1, d2] }
  | _ => none }
def FnScheduleDueIsFloorOfKSecondsOverRateWrongFalsely : Prop := fnScheduleDueIsFloorOfKSecondsOverRateRow.holds Try.pinned (OpenSpec.ofChange fnScheduleDueIsFloorOfKSecondsOverRateWrong)

/-- 'zzlaws_tfs_b1.FnScheduleDueGainsOneSecondPerRatePacketsAndStepsEvenly': WHATEVER THE INPUT: true; the input reads as it did. -/
def fnScheduleDueGainsOneSecondPerRatePacketsAndStepsEvenlySpec : ChangeSpec := { name := "fnScheduleDueGainsOneSecondPerRatePacketsAndStepsEvenly", fn := fun _ => fun
  | [d1, d2] => { results := [.lit (.bool true)], args := [d1, d2] }
  | _ => none }
def fnScheduleDueGainsOneSecondPerRatePacketsAndStepsEvenlyRow : OpenClaim := { program := "qxb6612203a", sum := "9de5526cccbdc4232e669de24cc79674eec6cd5d39d3e5b82ca1fe1eecd78840", func := "example.com/pacewire/pacewire/zzlaws_tfs_b1.FnScheduleDueGainsOneSecondPerRatePacketsAndStepsEvenly", spec := "fnScheduleDueGainsOneSecondPerRatePacketsAndStepsEvenly", apart := false }
def FnScheduleDueGainsOneSecondPerRatePacketsAndStepsEvenlySaid : Prop := fnScheduleDueGainsOneSecondPerRatePacketsAndStepsEvenlyRow.holds Try.pinned (OpenSpec.ofChange fnScheduleDueGainsOneSecondPerRatePacketsAndStepsEvenlySpec)

/-- ITS FALSE NEIGHBOUR: 'it returns false'. Refute it at one input. -/
def fnScheduleDueGainsOneSecondPerRatePacketsAndStepsEvenlyWrong : ChangeSpec := { name := "fnScheduleDueGainsOneSecondPerRatePacketsAndStepsEvenly", fn := fun _ => fun
  | [d1, d2] => { results := [.lit (.bool false)], args := [d1, d2] }
  | _ => none }
def FnScheduleDueGainsOneSecondPerRatePacketsAndStepsEvenlyWrongFalsely : Prop := fnScheduleDueGainsOneSecondPerRatePacketsAndStepsEvenlyRow.holds Try.pinned (OpenSpec.ofChange fnScheduleDueGainsOneSecondPerRatePacketsAndStepsEvenlyWrong)

end Rows
end Go.Proofs.Qxb6612203a
