/-
  No cell of these rows narrows 'for every input' (looked for: loops, veiled, ifaces, maps, wideKeys, modest, calm, conditions, laid).
  DERIVED. THE GIVEN ROWS OF THIS SEAT. 6 by the template 'for every input the law returns true; each argument reads behind the call as it read before'; 0 by the template 'total and deterministic' (their statements: Qxb6603199aTotals.lean).
  GIVEN WITH THE SEED: the statements are not yours to turn. If you find one false, say at which input.
  Laid BY PROGRAM, IN A SANDBOX (cutbox-rows.mjs): the forced cells as the released guide's own fill.sh prints them over the translation 2ca3658eb96f64c0… (all of the seat's roots in one cut). By AI agents, Wed Nov 11 2026. No macro, syntax, notation, axiom, sorry.
-/
import Derived.Test.Qxb6603199aChecked
import GoSem.Claim
import GoSem.ClaimJoined
import GoSem.ClaimMapViews
import Derived.JoinedTies
import Derived.KernelRfl
namespace Go.Proofs.Qxb6603199a
/- THE CELL 'sum', in the pinned program and in every row, IS THE sha256 OF THE DUMP (.gsa) THAT Qxb6603199aProg.lean LOADS. Nothing in Lean hashes anything: it is a label: what it is worth is what the hold of that sum in a sandbox is worth. -/
noncomputable def Try.pinned : Pinned := { name := "qxb6603199a", sum := "2ca3658eb96f64c0168d052e3db957ed43741f1c2bec6baa60a2868d06184de0", checked := Try.checked }
namespace Rows
def none {H : Type} : Left H := { results := [], args := [] }

/-- 'zzlaws_pkg_config_b1.FnCheckNameExactByHyphenPieces': WHATEVER THE INPUT: true; the input reads as it did. -/
def fnCheckNameExactByHyphenPiecesSpec : ChangeSpec := { name := "fnCheckNameExactByHyphenPieces", fn := fun _ => fun
  | [d] => { results := [.lit (.bool true)], args := [d] }
  | _ => none }
def fnCheckNameExactByHyphenPiecesRow : OpenClaim := { program := "qxb6603199a", sum := "2ca3658eb96f64c0168d052e3db957ed43741f1c2bec6baa60a2868d06184de0", func := "example.com/hop2/hop2/zzlaws_pkg_config_b1.FnCheckNameExactByHyphenPieces", spec := "fnCheckNameExactByHyphenPieces", apart := false }
def FnCheckNameExactByHyphenPiecesSaid : Prop := fnCheckNameExactByHyphenPiecesRow.holds Try.pinned (OpenSpec.ofChange fnCheckNameExactByHyphenPiecesSpec)

/-- ITS FALSE NEIGHBOUR: 'it returns false'. Refute it at one input. -/
def fnCheckNameExactByHyphenPiecesWrong : ChangeSpec := { name := "fnCheckNameExactByHyphenPieces", fn := fun _ => fun
  | [d] => { results := [.lit (.bool false)], args := [d] }
  | _ => none }
def FnCheckNameExactByHyphenPiecesWrongFalsely : Prop := fnCheckNameExactByHyphenPiecesRow.holds Try.pinned (OpenSpec.ofChange fnCheckNameExactByHyphenPiecesWrong)

/-- 'zzlaws_pkg_config_b1.FnCheckNameJoin': WHATEVER THE INPUT: true; the input reads as it did. -/
def fnCheckNameJoinSpec : ChangeSpec := { name := "fnCheckNameJoin", fn := fun _ => fun
  | [d1, d2] => { results := [.lit (.bool true)], args := [d1, d2] }
  | _ => none }
def fnCheckNameJoinRow : OpenClaim := { program := "qxb6603199a", sum := "2ca3658eb96f64c0168d052e3db957ed43741f1c2bec6baa60a2868d06184de0", func := "example.com/hop2/hop2/zzlaws_pkg_config_b1.FnCheckNameJoin", spec := "fnCheckNameJoin", apart := false }
def FnCheckNameJoinSaid : Prop := fnCheckNameJoinRow.holds Try.pinned (OpenSpec.ofChange fnCheckNameJoinSpec)

/-- ITS FALSE NEIGHBOUR: 'it returns false'. Refute it at one input. -/
def fnCheckNameJoinWrong : ChangeSpec := { name := "fnCheckNameJoin", fn := fun _ => fun
  | [d1, d2] => { results := [.lit (.bool false)], args := [d1, d2] }
  | _ => none }
def FnCheckNameJoinWrongFalsely : Prop := fnCheckNameJoinRow.holds Try.pinned (OpenSpec.ofChange fnCheckNameJoinWrong)

/-- 'zzlaws_pkg_config_b1.FnCheckNameOneByteChange': WHATEVER THE INPUT: true; the input reads as it did. -/
def fnCheckNameOneByteChangeSpec : ChangeSpec := { name := "fnCheckNameOneByteChange", fn := fun _ => fun
  | [d1, d2, d3] => { results := [.lit (.bool true)], args := [d1, d2, d3] }
  | _ => none }
def fnCheckNameOneByteChangeRow : OpenClaim := { program := "qxb6603199a", sum := "2ca3658eb96f64c0168d052e3db957ed43741f1c2bec6baa60a2868d06184de0", func := "example.com/hop2/hop2/zzlaws_pkg_config_b1.FnCheckNameOneByteChange", spec := "fnCheckNameOneByteChange", apart := false }
def FnCheckNameOneByteChangeSaid : Prop := fnCheckNameOneByteChangeRow.holds Try.pinned (OpenSpec.ofChange fnCheckNameOneByteChangeSpec)

/-- ITS FALSE NEIGHBOUR: 'it returns false'. Refute it at one input. -/
def fnCheckNameOneByteChangeWrong : ChangeSpec := { name := "fnCheckNameOneByteChange", fn := fun _ => fun
  | [d1, d2, d3] => { results := [.lit (.bool false)], args := [d1, d2, d3] }
  | _ => none }
def FnCheckNameOneByteChangeWrongFalsely : Prop := fnCheckNameOneByteChangeRow.holds Try.pinned (OpenSpec.ofChange fnCheckNameOneByteChangeWrong)

/-- 'zzlaws_pkg_config_b1.FnOutsideExact': WHATEVER THE INPUT: true; the input reads as it did. -/
def fnOutsideExactSpec : ChangeSpec := { name := "fnOutsideExact", fn := fun _ => fun
  | [d1, d2] => { results := [.lit (.bool true)], args := [d1, d2] }
  | _ => none }
def fnOutsideExactRow : OpenClaim := { program := "qxb6603199a", sum := "2ca3658eb96f64c0168d052e3db957ed43741f1c2bec6baa60a2868d06184de0", func := "example.com/hop2/hop2/zzlaws_pkg_config_b1.FnOutsideExact", spec := "fnOutsideExact", apart := false }
def FnOutsideExactSaid : Prop := fnOutsideExactRow.holds Try.pinned (OpenSpec.ofChange fnOutsideExactSpec)

/-- ITS FALSE NEIGHBOUR: 'it returns false'. Refute it at one input. -/
def fnOutsideExactWrong : ChangeSpec := { name := "fnOutsideExact", fn := fun _ => fun
  | [d1, d2] => { results := [.lit (.bool false)], args := [d1, d2] }
  | _ => none }
def FnOutsideExactWrongFalsely : Prop := fnOutsideExactRow.holds Try.pinned (OpenSpec.ofChange fnOutsideExactWrong)

/-- 'zzlaws_pkg_config_b1.FnOutsideSplitDecoded': WHATEVER THE INPUT: true; the input reads as it did. -/
def fnOutsideSplitDecodedSpec : ChangeSpec := { name := "fnOutsideSplitDecoded", fn := fun _ => fun
  | [d1, d2, d3] => { results := [.lit (.bool true)], args := [d1, d2, d3] }
  | _ => none }
def fnOutsideSplitDecodedRow : OpenClaim := { program := "qxb6603199a", sum := "2ca3658eb96f64c0168d052e3db957ed43741f1c2bec6baa60a2868d06184de0", func := "example.com/hop2/hop2/zzlaws_pkg_config_b1.FnOutsideSplitDecoded", spec := "fnOutsideSplitDecoded", apart := false }
def FnOutsideSplitDecodedSaid : Prop := fnOutsideSplitDecodedRow.holds Try.pinned (OpenSpec.ofChange fnOutsideSplitDecodedSpec)

/-- ITS FALSE NEIGHBOUR: 'it returns false'. Refute it at one input. -/
def fnOutsideSplitDecodedWrong : ChangeSpec := { name := "fnOutsideSplitDecoded", fn := fun _ => fun
  | [d1, d2, d3] => { results := [.lit (.bool false)], args := [d1, d2, d3] }
  | _ => none }
def FnOutsideSplitDecodedWrongFalsely : Prop := fnOutsideSplitDecodedRow.holds Try.pinned (OpenSpec.ofChange fnOutsideSplitDecodedWrong)

/-- 'zzlaws_pkg_config_b1.FnOutsideSplitChecks': WHATEVER THE INPUT: true; the input reads as it did. -/
def fnOutsideSplitChecksSpec : ChangeSpec := { name := "fnOutsideSplitChecks", fn := fun _ => fun
  | [d1, d2, d3] => { results := [.lit (.bool true)], args := [d1, d2, d3] }
  | _ => none }
def fnOutsideSplitChecksRow : OpenClaim := { program := "qxb6603199a", sum := "2ca3658eb96f64c0168d052e3db957ed43741f1c2bec6baa60a2868d06184de0", func := "example.com/hop2/hop2/zzlaws_pkg_config_b1.FnOutsideSplitChecks", spec := "fnOutsideSplitChecks", apart := false }
def FnOutsideSplitChecksSaid : Prop := fnOutsideSplitChecksRow.holds Try.pinned (OpenSpec.ofChange fnOutsideSplitChecksSpec)

/-- ITS FALSE NEIGHBOUR: 'it returns false'. Refute it at one input. -/
def fnOutsideSplitChecksWrong : ChangeSpec := { name := "fnOutsideSplitChecks", fn := fun _ => fun
  | [d1, d2, d3] => { results := [.lit (.bool false)], args := [d1, d2, d3] }
  | _ => none }
def FnOutsideSplitChecksWrongFalsely : Prop := fnOutsideSplitChecksRow.holds Try.pinned (OpenSpec.ofChange fnOutsideSplitChecksWrong)

end Rows
end Go.Proofs.Qxb6603199a
