/-
  No cell of these rows narrows 'for every input' (looked for: loops, veiled, ifaces, maps, wideKeys, modest, calm, conditions, laid).
  DERIVED. THE GIVEN ROWS OF THIS SEAT. 5 by the template 'for every input the law returns true; each argument reads behind the call as it read before'; 0 by the template 'total and deterministic' (their statements: Qxb6603278aTotals.lean).
  GIVEN WITH THE SEED: the statements are not yours to turn. If you find one false, say at which input.
  Laid BY PROGRAM, IN A SANDBOX (cutbox-rows.mjs): the forced cells as the released guide's own fill.sh prints them over the translation 0a1c796cfa3f15fb… (all of the seat's roots in one cut). By AI agents, Wed Nov 11 2026. No macro, syntax, notation, axiom, sorry.
-/
import Derived.Test.Qxb6603278aChecked
import GoSem.Claim
import GoSem.ClaimJoined
import GoSem.ClaimMapViews
import Derived.JoinedTies
import Derived.KernelRfl
namespace Go.Proofs.Qxb6603278a
/- THE CELL 'sum', in the pinned program and in every row, IS THE sha256 OF THE DUMP (.gsa) THAT Qxb6603278aProg.lean LOADS. Nothing in Lean hashes anything: it is a label: what it is worth is what the hold of that sum in a sandbox is worth. -/
noncomputable def Try.pinned : Pinned := { name := "qxb6603278a", sum := "0a1c796cfa3f15fbceaecff3c09539f215d25e91557e557dbae81b225ad07d19", checked := Try.checked }
namespace Rows
def none {H : Type} : Left H := { results := [], args := [] }

/-- 'zzlaws_health_b1.FnIowaitPercentSinceIsRoundedShare': WHATEVER THE INPUT: true; the input reads as it did. -/
def fnIowaitPercentSinceIsRoundedShareSpec : ChangeSpec := { name := "fnIowaitPercentSinceIsRoundedShare", fn := fun _ => fun
  | [d1, d2, d3] => { results := [.lit (.bool true)], args := [d1, d2, d3] }
  | _ => none }
def fnIowaitPercentSinceIsRoundedShareRow : OpenClaim := { program := "qxb6603278a", sum := "0a1c796cfa3f15fbceaecff3c09539f215d25e91557e557dbae81b225ad07d19", func := "example.com/laddr/laddr/zzlaws_health_b1.FnIowaitPercentSinceIsRoundedShare", spec := "fnIowaitPercentSinceIsRoundedShare", apart := false }
def FnIowaitPercentSinceIsRoundedShareSaid : Prop := fnIowaitPercentSinceIsRoundedShareRow.holds Try.pinned (OpenSpec.ofChange fnIowaitPercentSinceIsRoundedShareSpec)

/-- ITS FALSE NEIGHBOUR: 'it returns false'. Refute it at one input. -/
def fnIowaitPercentSinceIsRoundedShareWrong : ChangeSpec := { name := "fnIowaitPercentSinceIsRoundedShare", fn := fun _ => fun
  | [d1, d2, d3] => { results := [.lit (.bool false)], args := [d1, d2, d3] }
  | _ => none }
def FnIowaitPercentSinceIsRoundedShareWrongFalsely : Prop := fnIowaitPercentSinceIsRoundedShareRow.holds Try.pinned (OpenSpec.ofChange fnIowaitPercentSinceIsRoundedShareWrong)

/-- 'zzlaws_health_b1.FnIowaitPercentSinceIgnoresBaseline': WHATEVER THE INPUT: true; the input reads as it did. -/
def fnIowaitPercentSinceIgnoresBaselineSpec : ChangeSpec := { name := "fnIowaitPercentSinceIgnoresBaseline", fn := fun _ => fun
  | [d1, d2, d3, d4] => { results := [.lit (.bool true)], args := [d1, d2, d3, d4] }
  | _ => none }
def fnIowaitPercentSinceIgnoresBaselineRow : OpenClaim := { program := "qxb6603278a", sum := "0a1c796cfa3f15fbceaecff3c09539f215d25e91557e557dbae81b225ad07d19", func := "example.com/laddr/laddr/zzlaws_health_b1.FnIowaitPercentSinceIgnoresBaseline", spec := "fnIowaitPercentSinceIgnoresBaseline", apart := false }
def FnIowaitPercentSinceIgnoresBaselineSaid : Prop := fnIowaitPercentSinceIgnoresBaselineRow.holds Try.pinned (OpenSpec.ofChange fnIowaitPercentSinceIgnoresBaselineSpec)

/-- ITS FALSE NEIGHBOUR: 'it returns false'. Refute it at one input. -/
def fnIowaitPercentSinceIgnoresBaselineWrong : ChangeSpec := { name := "fnIowaitPercentSinceIgnoresBaseline", fn := fun _ => fun
  | [d1, d2, d3, d4] => { results := [.lit (.bool false)], args := [d1, d2, d3, d4] }
  | _ => none }
def FnIowaitPercentSinceIgnoresBaselineWrongFalsely : Prop := fnIowaitPercentSinceIgnoresBaselineRow.holds Try.pinned (OpenSpec.ofChange fnIowaitPercentSinceIgnoresBaselineWrong)

/-- 'zzlaws_health_b1.FnIowaitPercentSinceMonotone': WHATEVER THE INPUT: true; the input reads as it did. -/
def fnIowaitPercentSinceMonotoneSpec : ChangeSpec := { name := "fnIowaitPercentSinceMonotone", fn := fun _ => fun
  | [d1, d2, d3, d4, d5] => { results := [.lit (.bool true)], args := [d1, d2, d3, d4, d5] }
  | _ => none }
def fnIowaitPercentSinceMonotoneRow : OpenClaim := { program := "qxb6603278a", sum := "0a1c796cfa3f15fbceaecff3c09539f215d25e91557e557dbae81b225ad07d19", func := "example.com/laddr/laddr/zzlaws_health_b1.FnIowaitPercentSinceMonotone", spec := "fnIowaitPercentSinceMonotone", apart := false }
def FnIowaitPercentSinceMonotoneSaid : Prop := fnIowaitPercentSinceMonotoneRow.holds Try.pinned (OpenSpec.ofChange fnIowaitPercentSinceMonotoneSpec)

/-- ITS FALSE NEIGHBOUR: 'it returns false'. Refute it at one input. -/
def fnIowaitPercentSinceMonotoneWrong : ChangeSpec := { name := "fnIowaitPercentSinceMonotone", fn := fun _ => fun
  | [d1, d2, d3, d4, d5] => { results := [.lit (.bool false)], args := [d1, d2, d3, d4, d5] }
  | _ => none }
def FnIowaitPercentSinceMonotoneWrongFalsely : Prop := fnIowaitPercentSinceMonotoneRow.holds Try.pinned (OpenSpec.ofChange fnIowaitPercentSinceMonotoneWrong)

/-- 'zzlaws_health_b1.FnPressureRisesWithV': WHATEVER THE INPUT: true; the input reads as it did. -/
def fnPressureRisesWithVSpec : ChangeSpec := { name := "fnPressureRisesWithV", fn := fun _ => fun
  | [d1, d2, d3, d4] => { results := [.lit (.bool true)], args := [d1, d2, d3, d4] }
  | _ => none }
def fnPressureRisesWithVRow : OpenClaim := { program := "qxb6603278a", sum := "0a1c796cfa3f15fbceaecff3c09539f215d25e91557e557dbae81b225ad07d19", func := "example.com/laddr/laddr/zzlaws_health_b1.FnPressureRisesWithV", spec := "fnPressureRisesWithV", apart := false }
def FnPressureRisesWithVSaid : Prop := fnPressureRisesWithVRow.holds Try.pinned (OpenSpec.ofChange fnPressureRisesWithVSpec)

/-- ITS FALSE NEIGHBOUR: 'it returns false'. Refute it at one input. -/
def fnPressureRisesWithVWrong : ChangeSpec := { name := "fnPressureRisesWithV", fn := fun _ => fun
  | [d1, d2, d3, d4] => { results := [.lit (.bool false)], args := [d1, d2, d3, d4] }
  | _ => none }
def FnPressureRisesWithVWrongFalsely : Prop := fnPressureRisesWithVRow.holds Try.pinned (OpenSpec.ofChange fnPressureRisesWithVWrong)

/-- 'zzlaws_health_b1.FnPressureFallsWithThresholds': WHATEVER THE INPUT: true; the input reads as it did. -/
def fnPressureFallsWithThresholdsSpec : ChangeSpec := { name := "fnPressureFallsWithThresholds", fn := fun _ => fun
  | [d1, d2, d3, d4, d5] => { results := [.lit (.bool true)], args := [d1, d2, d3, d4, d5] }
  | _ => none }
def fnPressureFallsWithThresholdsRow : OpenClaim := { program := "qxb6603278a", sum := "0a1c796cfa3f15fbceaecff3c09539f215d25e91557e557dbae81b225ad07d19", func := "example.com/laddr/laddr/zzlaws_health_b1.FnPressureFallsWithThresholds", spec := "fnPressureFallsWithThresholds", apart := false }
def FnPressureFallsWithThresholdsSaid : Prop := fnPressureFallsWithThresholdsRow.holds Try.pinned (OpenSpec.ofChange fnPressureFallsWithThresholdsSpec)

/-- ITS FALSE NEIGHBOUR: 'it returns false'. Refute it at one input. -/
def fnPressureFallsWithThresholdsWrong : ChangeSpec := { name := "fnPressureFallsWithThresholds", fn := fun _ => fun
  | [d1, d2, d3, d4, d5] => { results := [.lit (.bool false)], args := [d1, d2, d3, d4, d5] }
  | _ => none }
def FnPressureFallsWithThresholdsWrongFalsely : Prop := fnPressureFallsWithThresholdsRow.holds Try.pinned (OpenSpec.ofChange fnPressureFallsWithThresholdsWrong)

end Rows
end Go.Proofs.Qxb6603278a
