/-
  No cell of these rows narrows 'for every input' (looked for: loops, veiled, ifaces, maps, wideKeys, modest, calm, conditions, laid).
  DERIVED. THE GIVEN ROWS OF THIS SEAT. 6 by the template 'for every input the law returns true; each argument reads behind the call as it read before'; 0 by the template 'total and deterministic' (their statements: Qxb6601363aTotals.lean).
  GIVEN WITH THE SEED: the statements are not yours to turn. If you find one false, say at which input.
  Laid BY PROGRAM, IN A SANDBOX (cutbox-rows.mjs): the forced cells as the released guide's own fill.sh prints them over the translation 1abef997748f159e… (all of the seat's roots in one cut). By AI agents, Wed Nov 11 2026. No macro, syntax, notation, axiom, sorry.
-/
import Derived.Test.Qxb6601363aChecked
import GoSem.Claim
import GoSem.ClaimJoined
import GoSem.ClaimMapViews
import Derived.JoinedTies
import Derived.KernelRfl
namespace Go.Proofs.Qxb6601363a
/- THE CELL 'sum', in the pinned program and in every row, IS THE sha256 OF THE DUMP (.gsa) THAT Qxb6601363aProg.lean LOADS. Nothing in Lean hashes anything: it is a label: what it is worth is what the hold of that sum in a sandbox is worth. -/
noncomputable def Try.pinned : Pinned := { name := "qxb6601363a", sum := "1abef997748f159e568019059a49a5a562a8c3738f515623b6bfc02787547c9e", checked := Try.checked }
namespace Rows
def none {H : Type} : Left H := { results := [], args := [] }

/-- 'zzlaws_root_b1.FnScanDigitsMatchesModel': WHATEVER THE INPUT: true; the input reads as it did. -/
def fnScanDigitsMatchesModelSpec : ChangeSpec := { name := "fnScanDigitsMatchesModel", fn := fun _ => fun
  | [d] => { results := [.lit (.bool true)], args := [d] }
  | _ => none }
def fnScanDigitsMatchesModelRow : OpenClaim := { program := "qxb6601363a", sum := "1abef997748f159e568019059a49a5a562a8c3738f515623b6bfc02787547c9e", func := "example.com/broadbalk/broadbalk/zzlaws_root_b1.FnScanDigitsMatchesModel", spec := "fnScanDigitsMatchesModel", apart := false }
def FnScanDigitsMatchesModelSaid : Prop := fnScanDigitsMatchesModelRow.holds Try.pinned (OpenSpec.ofChange fnScanDigitsMatchesModelSpec)

/-- ITS FALSE NEIGHBOUR: 'it returns false'. Refute it at one input. -/
def fnScanDigitsMatchesModelWrong : ChangeSpec := { name := "fnScanDigitsMatchesModel", fn := fun _ => fun
  | [d] => { results := [.lit (.bool false)], args := [d] }
  | _ => none }
def FnScanDigitsMatchesModelWrongFalsely : Prop := fnScanDigitsMatchesModelRow.holds Try.pinned (OpenSpec.ofChange fnScanDigitsMatchesModelWrong)

/-- 'zzlaws_root_b1.FnScanDigitsReadsNothingPastExponent': WHATEVER THE INPUT: true; the input reads as it did. -/
def fnScanDigitsReadsNothingPastExponentSpec : ChangeSpec := { name := "fnScanDigitsReadsNothingPastExponent", fn := fun _ => fun
  | [d1, d2] => { results := [.lit (.bool true)], args := [d1, d2] }
  | _ => none }
def fnScanDigitsReadsNothingPastExponentRow : OpenClaim := { program := "qxb6601363a", sum := "1abef997748f159e568019059a49a5a562a8c3738f515623b6bfc02787547c9e", func := "example.com/broadbalk/broadbalk/zzlaws_root_b1.FnScanDigitsReadsNothingPastExponent", spec := "fnScanDigitsReadsNothingPastExponent", apart := false }
def FnScanDigitsReadsNothingPastExponentSaid : Prop := fnScanDigitsReadsNothingPastExponentRow.holds Try.pinned (OpenSpec.ofChange fnScanDigitsReadsNothingPastExponentSpec)

/-- ITS FALSE NEIGHBOUR: 'it returns false'. Refute it at one input. -/
def fnScanDigitsReadsNothingPastExponentWrong : ChangeSpec := { name := "fnScanDigitsReadsNothingPastExponent", fn := fun _ => fun
  | [d1, d2] => { results := [.lit (.bool false)], args := [d1, d2] }
  | _ => none }
def FnScanDigitsReadsNothingPastExponentWrongFalsely : Prop := fnScanDigitsReadsNothingPastExponentRow.holds Try.pinned (OpenSpec.ofChange fnScanDigitsReadsNothingPastExponentWrong)

/-- 'zzlaws_root_b1.FnParseDecimalMatchesModel': WHATEVER THE INPUT: true; the input reads as it did. -/
def fnParseDecimalMatchesModelSpec : ChangeSpec := { name := "fnParseDecimalMatchesModel", fn := fun _ => fun
  | [d] => { results := [.lit (.bool true)], args := [d] }
  | _ => none }
def fnParseDecimalMatchesModelRow : OpenClaim := { program := "qxb6601363a", sum := "1abef997748f159e568019059a49a5a562a8c3738f515623b6bfc02787547c9e", func := "example.com/broadbalk/broadbalk/zzlaws_root_b1.FnParseDecimalMatchesModel", spec := "fnParseDecimalMatchesModel", apart := false }
def FnParseDecimalMatchesModelSaid : Prop := fnParseDecimalMatchesModelRow.holds Try.pinned (OpenSpec.ofChange fnParseDecimalMatchesModelSpec)

/-- ITS FALSE NEIGHBOUR: 'it returns false'. Refute it at one input. -/
def fnParseDecimalMatchesModelWrong : ChangeSpec := { name := "fnParseDecimalMatchesModel", fn := fun _ => fun
  | [d] => { results := [.lit (.bool false)], args := [d] }
  | _ => none }
def FnParseDecimalMatchesModelWrongFalsely : Prop := fnParseDecimalMatchesModelRow.holds Try.pinned (OpenSpec.ofChange fnParseDecimalMatchesModelWrong)

/-- 'zzlaws_root_b1.FnParseDecimalIgnoresSpelling': WHATEVER THE INPUT: true; the input reads as it did. -/
def fnParseDecimalIgnoresSpellingSpec : ChangeSpec := { name := "fnParseDecimalIgnoresSpelling", fn := fun _ => fun
  | [d1, d2, d3, d4] => { results := [.lit (.bool true)], args := [d1, d2, d3, d4] }
  | _ => none }
def fnParseDecimalIgnoresSpellingRow : OpenClaim := { program := "qxb6601363a", sum := "1abef997748f159e568019059a49a5a562a8c3738f515623b6bfc02787547c9e", func := "example.com/broadbalk/broadbalk/zzlaws_root_b1.FnParseDecimalIgnoresSpelling", spec := "fnParseDecimalIgnoresSpelling", apart := false }
def FnParseDecimalIgnoresSpellingSaid : Prop := fnParseDecimalIgnoresSpellingRow.holds Try.pinned (OpenSpec.ofChange fnParseDecimalIgnoresSpellingSpec)

/-- ITS FALSE NEIGHBOUR: 'it returns false'. Refute it at one input. -/
def fnParseDecimalIgnoresSpellingWrong : ChangeSpec := { name := "fnParseDecimalIgnoresSpelling", fn := fun _ => fun
  | [d1, d2, d3, d4] => { results := [.lit (.bool false)], args := [d1, d2, d3, d4] }
  | _ => none }
def FnParseDecimalIgnoresSpellingWrongFalsely : Prop := fnParseDecimalIgnoresSpellingRow.holds Try.pinned (OpenSpec.ofChange fnParseDecimalIgnoresSpellingWrong)

/-- 'zzlaws_root_b1.FnInvalidSequenceLenIsMaximalSubpart': WHATEVER THE INPUT: true; the input reads as it did. -/
def fnInvalidSequenceLenIsMaximalSubpartSpec : ChangeSpec := { name := "fnInvalidSequenceLenIsMaximalSubpart", fn := fun _ => fun
  | [d] => { results := [.lit (.bool true)], args := [d] }
  | _ => none }
def fnInvalidSequenceLenIsMaximalSubpartRow : OpenClaim := { program := "qxb6601363a", sum := "1abef997748f159e568019059a49a5a562a8c3738f515623b6bfc02787547c9e", func := "example.com/broadbalk/broadbalk/zzlaws_root_b1.FnInvalidSequenceLenIsMaximalSubpart", spec := "fnInvalidSequenceLenIsMaximalSubpart", apart := false }
def FnInvalidSequenceLenIsMaximalSubpartSaid : Prop := fnInvalidSequenceLenIsMaximalSubpartRow.holds Try.pinned (OpenSpec.ofChange fnInvalidSequenceLenIsMaximalSubpartSpec)

/-- ITS FALSE NEIGHBOUR: 'it returns false'. Refute it at one input. -/
def fnInvalidSequenceLenIsMaximalSubpartWrong : ChangeSpec := { name := "fnInvalidSequenceLenIsMaximalSubpart", fn := fun _ => fun
  | [d] => { results := [.lit (.bool false)], args := [d] }
  | _ => none }
def FnInvalidSequenceLenIsMaximalSubpartWrongFalsely : Prop := fnInvalidSequenceLenIsMaximalSubpartRow.holds Try.pinned (OpenSpec.ofChange fnInvalidSequenceLenIsMaximalSubpartWrong)

/-- 'zzlaws_root_b1.FnInvalidSequenceLenLooksAtThreeBytes': WHATEVER THE INPUT: true; the input reads as it did. -/
def fnInvalidSequenceLenLooksAtThreeBytesSpec : ChangeSpec := { name := "fnInvalidSequenceLenLooksAtThreeBytes", fn := fun _ => fun
  | [d] => { results := [.lit (.bool true)], args := [d] }
  | _ => none }
def fnInvalidSequenceLenLooksAtThreeBytesRow : OpenClaim := { program := "qxb6601363a", sum := "1abef997748f159e568019059a49a5a562a8c3738f515623b6bfc02787547c9e", func := "example.com/broadbalk/broadbalk/zzlaws_root_b1.FnInvalidSequenceLenLooksAtThreeBytes", spec := "fnInvalidSequenceLenLooksAtThreeBytes", apart := false }
def FnInvalidSequenceLenLooksAtThreeBytesSaid : Prop := fnInvalidSequenceLenLooksAtThreeBytesRow.holds Try.pinned (OpenSpec.ofChange fnInvalidSequenceLenLooksAtThreeBytesSpec)

/-- ITS FALSE NEIGHBOUR: 'it returns false'. Refute it at one input. -/
def fnInvalidSequenceLenLooksAtThreeBytesWrong : ChangeSpec := { name := "fnInvalidSequenceLenLooksAtThreeBytes", fn := fun _ => fun
  | [d] => { results := [.lit (.bool false)], args := [d] }
  | _ => none }
def FnInvalidSequenceLenLooksAtThreeBytesWrongFalsely : Prop := fnInvalidSequenceLenLooksAtThreeBytesRow.holds Try.pinned (OpenSpec.ofChange fnInvalidSequenceLenLooksAtThreeBytesWrong)

end Rows
end Go.Proofs.Qxb6601363a
