/-
  No cell of these rows narrows 'for every input' (looked for: loops, veiled, ifaces, maps, wideKeys, modest, calm, conditions, laid).
  DERIVED. THE GIVEN ROWS OF THIS SEAT. 4 by the template 'for every input the law returns true; each argument reads behind the call as it read before'; 0 by the template 'total and deterministic' (their statements: Qxb6605428aTotals.lean).
  GIVEN WITH THE SEED: the statements are not yours to turn. If you find one false, say at which input.
  Laid BY PROGRAM, IN A SANDBOX (cutbox-rows.mjs): the forced cells as the released guide's own fill.sh prints them over the translation afc177460da3db3a… (all of the seat's roots in one cut). By AI agents, Wed Nov 11 2026. No macro, syntax, notation, axiom, sorry.
-/
import Derived.Test.Qxb6605428aChecked
import GoSem.Claim
import GoSem.ClaimJoined
import GoSem.ClaimMapViews
import Derived.JoinedTies
import Derived.KernelRfl
namespace Go.Proofs.Qxb6605428a
/- THE CELL 'sum', in the pinned program and in every row, IS THE sha256 OF THE DUMP (.gsa) THAT Qxb6605428aProg.lean LOADS. Nothing in Lean hashes anything: it is a label: what it is worth is what the hold of that sum in a sandbox is worth. -/
noncomputable def Try.pinned : Pinned := { name := "qxb6605428a", sum := "afc177460da3db3a541fedce95265869f311e8a463518a76b8f65ed0c23c6bcc", checked := Try.checked }
namespace Rows
def none {H : Type} : Left H := { results := [], args := [] }

/-- 'zzlaws_internal_jsontext_b1.FnSkipStringMatchesEscapeScanner': WHATEVER THE INPUT: true; the input reads as it did. -/
def fnSkipStringMatchesEscapeScannerSpec : ChangeSpec := { name := "fnSkipStringMatchesEscapeScanner", fn := fun _ => fun
  | [d1, d2] => { results := [.lit (.bool true)], args := [d1, d2] }
  | _ => none }
def fnSkipStringMatchesEscapeScannerRow : OpenClaim := { program := "qxb6605428a", sum := "afc177460da3db3a541fedce95265869f311e8a463518a76b8f65ed0c23c6bcc", func := "example.com/adjacency/adjacency/zzlaws_internal_jsontext_b1.FnSkipStringMatchesEscapeScanner", spec := "fnSkipStringMatchesEscapeScanner", inPlace := ["internal/bytealg.IndexByteString"], apart := false }
def FnSkipStringMatchesEscapeScannerSaid : Prop := fnSkipStringMatchesEscapeScannerRow.holds Try.pinned (OpenSpec.ofChange fnSkipStringMatchesEscapeScannerSpec)

/-- ITS FALSE NEIGHBOUR: 'it returns false'. Refute it at one input. -/
def fnSkipStringMatchesEscapeScannerWrong : ChangeSpec := { name := "fnSkipStringMatchesEscapeScanner", fn := fun _ => fun
  | [d1, d2] => { results := [.lit (.bool false)], args := [d1, d2] }
  | _ => none }
def FnSkipStringMatchesEscapeScannerWrongFalsely : Prop := fnSkipStringMatchesEscapeScannerRow.holds Try.pinned (OpenSpec.ofChange fnSkipStringMatchesEscapeScannerWrong)

/-- 'zzlaws_internal_jsontext_b1.FnSkipStringStepsOverAnEscapedLiteral': WHATEVER THE INPUT: true; the input reads as it did. -/
def fnSkipStringStepsOverAnEscapedLiteralSpec : ChangeSpec := { name := "fnSkipStringStepsOverAnEscapedLiteral", fn := fun _ => fun
  | [d1, d2, d3] => { results := [.lit (.bool true)], args := [d1, d2, d3] }
  | _ => none }
def fnSkipStringStepsOverAnEscapedLiteralRow : OpenClaim := { program := "qxb6605428a", sum := "afc177460da3db3a541fedce95265869f311e8a463518a76b8f65ed0c23c6bcc", func := "example.com/adjacency/adjacency/zzlaws_internal_jsontext_b1.FnSkipStringStepsOverAnEscapedLiteral", spec := "fnSkipStringStepsOverAnEscapedLiteral", inPlace := ["internal/bytealg.IndexByteString"], apart := false }
def FnSkipStringStepsOverAnEscapedLiteralSaid : Prop := fnSkipStringStepsOverAnEscapedLiteralRow.holds Try.pinned (OpenSpec.ofChange fnSkipStringStepsOverAnEscapedLiteralSpec)

/-- ITS FALSE NEIGHBOUR: 'it returns false'. Refute it at one input. -/
def fnSkipStringStepsOverAnEscapedLiteralWrong : ChangeSpec := { name := "fnSkipStringStepsOverAnEscapedLiteral", fn := fun _ => fun
  | [d1, d2, d3] => { results := [.lit (.bool false)], args := [d1, d2, d3] }
  | _ => none }
def FnSkipStringStepsOverAnEscapedLiteralWrongFalsely : Prop := fnSkipStringStepsOverAnEscapedLiteralRow.holds Try.pinned (OpenSpec.ofChange fnSkipStringStepsOverAnEscapedLiteralWrong)

/-- 'zzlaws_internal_jsontext_b1.FnSkipValueMatchesOnePassScanner': WHATEVER THE INPUT: true; the input reads as it did. -/
def fnSkipValueMatchesOnePassScannerSpec : ChangeSpec := { name := "fnSkipValueMatchesOnePassScanner", fn := fun _ => fun
  | [d1, d2] => { results := [.lit (.bool true)], args := [d1, d2] }
  | _ => none }
def fnSkipValueMatchesOnePassScannerRow : OpenClaim := { program := "qxb6605428a", sum := "afc177460da3db3a541fedce95265869f311e8a463518a76b8f65ed0c23c6bcc", func := "example.com/adjacency/adjacency/zzlaws_internal_jsontext_b1.FnSkipValueMatchesOnePassScanner", spec := "fnSkipValueMatchesOnePassScanner", inPlace := ["internal/bytealg.IndexByteString"], apart := false }
def FnSkipValueMatchesOnePassScannerSaid : Prop := fnSkipValueMatchesOnePassScannerRow.holds Try.pinned (OpenSpec.ofChange fnSkipValueMatchesOnePassScannerSpec)

/-- ITS FALSE NEIGHBOUR: 'it returns false'. Refute it at one input. -/
def fnSkipValueMatchesOnePassScannerWrong : ChangeSpec := { name := "fnSkipValueMatchesOnePassScanner", fn := fun _ => fun
  | [d1, d2] => { results := [.lit (.bool false)], args := [d1, d2] }
  | _ => none }
def FnSkipValueMatchesOnePassScannerWrongFalsely : Prop := fnSkipValueMatchesOnePassScannerRow.holds Try.pinned (OpenSpec.ofChange fnSkipValueMatchesOnePassScannerWrong)

/-- 'zzlaws_internal_jsontext_b1.FnSkipValueStepsOverAnArrayOfStrings': WHATEVER THE INPUT: true; the input reads as it did. -/
def fnSkipValueStepsOverAnArrayOfStringsSpec : ChangeSpec := { name := "fnSkipValueStepsOverAnArrayOfStrings", fn := fun _ => fun
  | [d1, d2, d3] => { results := [.lit (.bool true)], args := [d1, d2, d3] }
  | _ => none }
def fnSkipValueStepsOverAnArrayOfStringsRow : OpenClaim := { program := "qxb6605428a", sum := "afc177460da3db3a541fedce95265869f311e8a463518a76b8f65ed0c23c6bcc", func := "example.com/adjacency/adjacency/zzlaws_internal_jsontext_b1.FnSkipValueStepsOverAnArrayOfStrings", spec := "fnSkipValueStepsOverAnArrayOfStrings", inPlace := ["internal/bytealg.IndexByteString"], apart := false }
def FnSkipValueStepsOverAnArrayOfStringsSaid : Prop := fnSkipValueStepsOverAnArrayOfStringsRow.holds Try.pinned (OpenSpec.ofChange fnSkipValueStepsOverAnArrayOfStringsSpec)

/-- ITS FALSE NEIGHBOUR: 'it returns false'. Refute it at one input. -/
def fnSkipValueStepsOverAnArrayOfStringsWrong : ChangeSpec := { name := "fnSkipValueStepsOverAnArrayOfStrings", fn := fun _ => fun
  | [d1, d2, d3] => { results := [.lit (.bool false)], args := [d1, d2, d3] }
  | _ => none }
def FnSkipValueStepsOverAnArrayOfStringsWrongFalsely : Prop := fnSkipValueStepsOverAnArrayOfStringsRow.holds Try.pinned (OpenSpec.ofChange fnSkipValueStepsOverAnArrayOfStringsWrong)

end Rows
end Go.Proofs.Qxb6605428a
