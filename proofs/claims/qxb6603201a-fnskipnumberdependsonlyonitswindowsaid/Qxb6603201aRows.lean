/-
  No cell of these rows narrows 'for every input' (looked for: loops, veiled, ifaces, maps, wideKeys, modest, calm, conditions, laid).
  DERIVED. THE GIVEN ROWS OF THIS SEAT. 5 by the template 'for every input the law returns true; each argument reads behind the call as it read before'; 0 by the template 'total and deterministic' (their statements: Qxb6603201aTotals.lean).
  GIVEN WITH THE SEED: the statements are not yours to turn. If you find one false, say at which input.
  Laid BY PROGRAM, IN A SANDBOX (cutbox-rows.mjs): the forced cells as the released guide's own fill.sh prints them over the translation 573a38e0d49fe437… (all of the seat's roots in one cut). By AI agents, Wed Nov 11 2026. No macro, syntax, notation, axiom, sorry.
-/
import Derived.Test.Qxb6603201aChecked
import GoSem.Claim
import GoSem.ClaimJoined
import GoSem.ClaimMapViews
import Derived.JoinedTies
import Derived.KernelRfl
namespace Go.Proofs.Qxb6603201a
/- THE CELL 'sum', in the pinned program and in every row, IS THE sha256 OF THE DUMP (.gsa) THAT Qxb6603201aProg.lean LOADS. Nothing in Lean hashes anything: it is a label: what it is worth is what the hold of that sum in a sandbox is worth. -/
noncomputable def Try.pinned : Pinned := { name := "qxb6603201a", sum := "573a38e0d49fe437d692152a84b61a1f83d4ff0250ad485633598f380d7c8c7a", checked := Try.checked }
namespace Rows
def none {H : Type} : Left H := { results := [], args := [] }

/-- 'zzlaws_internal_hook_b1.FnStopsInMarksExactlyFromFirstStop': WHATEVER THE INPUT: true; the input reads as it did. -/
def fnStopsInMarksExactlyFromFirstStopSpec : ChangeSpec := { name := "fnStopsInMarksExactlyFromFirstStop", fn := fun _ => fun
  | [d] => { results := [.lit (.bool true)], args := [d] }
  | _ => none }
def fnStopsInMarksExactlyFromFirstStopRow : OpenClaim := { program := "qxb6603201a", sum := "573a38e0d49fe437d692152a84b61a1f83d4ff0250ad485633598f380d7c8c7a", func := "example.com/hookwarden/hookwarden/zzlaws_internal_hook_b1.FnStopsInMarksExactlyFromFirstStop", spec := "fnStopsInMarksExactlyFromFirstStop", apart := false }
def FnStopsInMarksExactlyFromFirstStopSaid : Prop := fnStopsInMarksExactlyFromFirstStopRow.holds Try.pinned (OpenSpec.ofChange fnStopsInMarksExactlyFromFirstStopSpec)

/-- ITS FALSE NEIGHBOUR: 'it returns false'. Refute it at one input. -/
def fnStopsInMarksExactlyFromFirstStopWrong : ChangeSpec := { name := "fnStopsInMarksExactlyFromFirstStop", fn := fun _ => fun
  | [d] => { results := [.lit (.bool false)], args := [d] }
  | _ => none }
def FnStopsInMarksExactlyFromFirstStopWrongFalsely : Prop := fnStopsInMarksExactlyFromFirstStopRow.holds Try.pinned (OpenSpec.ofChange fnStopsInMarksExactlyFromFirstStopWrong)

/-- 'zzlaws_internal_hook_b1.FnStopsInMarksLookOnlyAtLowerBytes': WHATEVER THE INPUT: true; the input reads as it did. -/
def fnStopsInMarksLookOnlyAtLowerBytesSpec : ChangeSpec := { name := "fnStopsInMarksLookOnlyAtLowerBytes", fn := fun _ => fun
  | [d1, d2] => { results := [.lit (.bool true)], args := [d1, d2] }
  | _ => none }
def fnStopsInMarksLookOnlyAtLowerBytesRow : OpenClaim := { program := "qxb6603201a", sum := "573a38e0d49fe437d692152a84b61a1f83d4ff0250ad485633598f380d7c8c7a", func := "example.com/hookwarden/hookwarden/zzlaws_internal_hook_b1.FnStopsInMarksLookOnlyAtLowerBytes", spec := "fnStopsInMarksLookOnlyAtLowerBytes", apart := false }
def FnStopsInMarksLookOnlyAtLowerBytesSaid : Prop := fnStopsInMarksLookOnlyAtLowerBytesRow.holds Try.pinned (OpenSpec.ofChange fnStopsInMarksLookOnlyAtLowerBytesSpec)

/-- ITS FALSE NEIGHBOUR: 'it returns false'. Refute it at one input. -/
def fnStopsInMarksLookOnlyAtLowerBytesWrong : ChangeSpec := { name := "fnStopsInMarksLookOnlyAtLowerBytes", fn := fun _ => fun
  | [d1, d2] => { results := [.lit (.bool false)], args := [d1, d2] }
  | _ => none }
def FnStopsInMarksLookOnlyAtLowerBytesWrongFalsely : Prop := fnStopsInMarksLookOnlyAtLowerBytesRow.holds Try.pinned (OpenSpec.ofChange fnStopsInMarksLookOnlyAtLowerBytesWrong)

/-- 'zzlaws_internal_hook_b1.FnEscapeLengthReadsFiveBytesAndFits': WHATEVER THE INPUT: true; the input reads as it did. -/
def fnEscapeLengthReadsFiveBytesAndFitsSpec : ChangeSpec := { name := "fnEscapeLengthReadsFiveBytesAndFits", fn := fun _ => fun
  | [d] => { results := [.lit (.bool true)], args := [d] }
  | _ => none }
def fnEscapeLengthReadsFiveBytesAndFitsRow : OpenClaim := { program := "qxb6603201a", sum := "573a38e0d49fe437d692152a84b61a1f83d4ff0250ad485633598f380d7c8c7a", func := "example.com/hookwarden/hookwarden/zzlaws_internal_hook_b1.FnEscapeLengthReadsFiveBytesAndFits", spec := "fnEscapeLengthReadsFiveBytesAndFits", apart := false }
def FnEscapeLengthReadsFiveBytesAndFitsSaid : Prop := fnEscapeLengthReadsFiveBytesAndFitsRow.holds Try.pinned (OpenSpec.ofChange fnEscapeLengthReadsFiveBytesAndFitsSpec)

/-- ITS FALSE NEIGHBOUR: 'it returns false'. Refute it at one input. -/
def fnEscapeLengthReadsFiveBytesAndFitsWrong : ChangeSpec := { name := "fnEscapeLengthReadsFiveBytesAndFits", fn := fun _ => fun
  | [d] => { results := [.lit (.bool false)], args := [d] }
  | _ => none }
def FnEscapeLengthReadsFiveBytesAndFitsWrongFalsely : Prop := fnEscapeLengthReadsFiveBytesAndFitsRow.holds Try.pinned (OpenSpec.ofChange fnEscapeLengthReadsFiveBytesAndFitsWrong)

/-- 'zzlaws_internal_hook_b1.FnSkipNumberMatchesNumberAutomaton': WHATEVER THE INPUT: true; the input reads as it did. -/
def fnSkipNumberMatchesNumberAutomatonSpec : ChangeSpec := { name := "fnSkipNumberMatchesNumberAutomaton", fn := fun _ => fun
  | [d1, d2] => { results := [.lit (.bool true)], args := [d1, d2] }
  | _ => none }
def fnSkipNumberMatchesNumberAutomatonRow : OpenClaim := { program := "qxb6603201a", sum := "573a38e0d49fe437d692152a84b61a1f83d4ff0250ad485633598f380d7c8c7a", func := "example.com/hookwarden/hookwarden/zzlaws_internal_hook_b1.FnSkipNumberMatchesNumberAutomaton", spec := "fnSkipNumberMatchesNumberAutomaton", apart := false }
def FnSkipNumberMatchesNumberAutomatonSaid : Prop := fnSkipNumberMatchesNumberAutomatonRow.holds Try.pinned (OpenSpec.ofChange fnSkipNumberMatchesNumberAutomatonSpec)

/-- ITS FALSE NEIGHBOUR: 'it returns false'. Refute it at one input. -/
def fnSkipNumberMatchesNumberAutomatonWrong : ChangeSpec := { name := "fnSkipNumberMatchesNumberAutomaton", fn := fun _ => fun
  | [d1, d2] => { results := [.lit (.bool false)], args := [d1, d2] }
  | _ => none }
def FnSkipNumberMatchesNumberAutomatonWrongFalsely : Prop := fnSkipNumberMatchesNumberAutomatonRow.holds Try.pinned (OpenSpec.ofChange fnSkipNumberMatchesNumberAutomatonWrong)

/-- 'zzlaws_internal_hook_b1.FnSkipNumberDependsOnlyOnItsWindow': WHATEVER THE INPUT: true; the input reads as it did. -/
def fnSkipNumberDependsOnlyOnItsWindowSpec : ChangeSpec := { name := "fnSkipNumberDependsOnlyOnItsWindow", fn := fun _ => fun
  | [d1, d2] => { results := [.lit (.bool true)], args := [d1, d2] }
  | _ => none }
def fnSkipNumberDependsOnlyOnItsWindowRow : OpenClaim := { program := "qxb6603201a", sum := "573a38e0d49fe437d692152a84b61a1f83d4ff0250ad485633598f380d7c8c7a", func := "example.com/hookwarden/hookwarden/zzlaws_internal_hook_b1.FnSkipNumberDependsOnlyOnItsWindow", spec := "fnSkipNumberDependsOnlyOnItsWindow", apart := false }
def FnSkipNumberDependsOnlyOnItsWindowSaid : Prop := fnSkipNumberDependsOnlyOnItsWindowRow.holds Try.pinned (OpenSpec.ofChange fnSkipNumberDependsOnlyOnItsWindowSpec)

/-- ITS FALSE NEIGHBOUR: 'it returns false'. Refute it at one input. -/
def fnSkipNumberDependsOnlyOnItsWindowWrong : ChangeSpec := { name := "fnSkipNumberDependsOnlyOnItsWindow", fn := fun _ => fun
  | [d1, d2] => { results := [.lit (.bool false)], args := [d1, d2] }
  | _ => none }
def FnSkipNumberDependsOnlyOnItsWindowWrongFalsely : Prop := fnSkipNumberDependsOnlyOnItsWindowRow.holds Try.pinned (OpenSpec.ofChange fnSkipNumberDependsOnlyOnItsWindowWrong)

end Rows
end Go.Proofs.Qxb6603201a
