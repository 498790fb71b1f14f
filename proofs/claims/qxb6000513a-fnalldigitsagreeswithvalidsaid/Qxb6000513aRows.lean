/-
  No cell of these rows narrows 'for every input' (looked for: loops, veiled, ifaces, maps, wideKeys, modest, calm, conditions, laid).
  DERIVED. THE GIVEN ROWS OF THIS SEAT. 8 by the template 'for every input the law returns true; each argument reads behind the call as it read before'; 0 by the template 'total and deterministic' (their statements: Qxb6000513aTotals.lean).
  GIVEN WITH THE SEED: the statements are not yours to turn. If you find one false, say at which input.
  Laid BY PROGRAM, IN A SANDBOX (cutbox-rows.mjs): the forced cells as the released guide's own fill.sh prints them over the translation 441f16106b59549a… (all of the seat's roots in one cut). By AI agents, Wed Nov 11 2026. No macro, syntax, notation, axiom, sorry.
-/
import Derived.Test.Qxb6000513aChecked
import GoSem.Claim
import GoSem.ClaimJoined
import GoSem.ClaimMapViews
import Derived.JoinedTies
import Derived.KernelRfl
namespace Go.Proofs.Qxb6000513a
/- THE CELL 'sum', in the pinned program and in every row, IS THE sha256 OF THE DUMP (.gsa) THAT Qxb6000513aProg.lean LOADS. Nothing in Lean hashes anything: it is a label: what it is worth is what the hold of that sum in a sandbox is worth. -/
noncomputable def Try.pinned : Pinned := { name := "qxb6000513a", sum := "441f16106b59549aae3ee768b90c3eafaa684e12433eaa90828d00c79c1fa366", checked := Try.checked }
namespace Rows
def none {H : Type} : Left H := { results := [], args := [] }

/-- 'zzlaws_decimal_b1.FnValidMatchesGrammarModel': WHATEVER THE INPUT: true; the input reads as it did. -/
def fnValidMatchesGrammarModelSpec : ChangeSpec := { name := "fnValidMatchesGrammarModel", fn := fun _ => fun
  | [d] => { results := [.lit (.bool true)], args := [d] }
  | _ => none }
def fnValidMatchesGrammarModelRow : OpenClaim := { program := "qxb6000513a", sum := "441f16106b59549aae3ee768b90c3eafaa684e12433eaa90828d00c79c1fa366", func := "example.com/vestline/vestline/zzlaws_decimal_b1.FnValidMatchesGrammarModel", spec := "fnValidMatchesGrammarModel", inPlace := ["internal/bytealg.IndexByteString", "internal/bytealg.IndexString"], named := ["internal/bytealg.MaxLen"], apart := false }
def FnValidMatchesGrammarModelSaid : Prop := fnValidMatchesGrammarModelRow.holds Try.pinned (OpenSpec.ofChange fnValidMatchesGrammarModelSpec)

/-- ITS FALSE NEIGHBOUR: 'it returns false'. Refute it at one input. -/
def fnValidMatchesGrammarModelWrong : ChangeSpec := { name := "fnValidMatchesGrammarModel", fn := fun _ => fun
  | [d] => { results := [.lit (.bool false)], args := [d] }
  | _ => none }
def FnValidMatchesGrammarModelWrongFalsely : Prop := fnValidMatchesGrammarModelRow.holds Try.pinned (OpenSpec.ofChange fnValidMatchesGrammarModelWrong)

/-- 'zzlaws_decimal_b1.FnValidSignPrefix': WHATEVER THE INPUT: true; the input reads as it did. -/
def fnValidSignPrefixSpec : ChangeSpec := { name := "fnValidSignPrefix", fn := fun _ => fun
  | [d] => { results := [.lit (.bool true)], args := [d] }
  | _ => none }
def fnValidSignPrefixRow : OpenClaim := { program := "qxb6000513a", sum := "441f16106b59549aae3ee768b90c3eafaa684e12433eaa90828d00c79c1fa366", func := "example.com/vestline/vestline/zzlaws_decimal_b1.FnValidSignPrefix", spec := "fnValidSignPrefix", inPlace := ["internal/bytealg.IndexByteString", "internal/bytealg.IndexString"], named := ["internal/bytealg.MaxLen"], apart := false }
def FnValidSignPrefixSaid : Prop := fnValidSignPrefixRow.holds Try.pinned (OpenSpec.ofChange fnValidSignPrefixSpec)

/-- ITS FALSE NEIGHBOUR: 'it returns false'. Refute it at one input. -/
def fnValidSignPrefixWrong : ChangeSpec := { name := "fnValidSignPrefix", fn := fun _ => fun
  | [d] => { results := [.lit (.bool false)], args := [d] }
  | _ => none }
def FnValidSignPrefixWrongFalsely : Prop := fnValidSignPrefixRow.holds Try.pinned (OpenSpec.ofChange fnValidSignPrefixWrong)

/-- 'zzlaws_decimal_b1.FnValidPointJoin': WHATEVER THE INPUT: true; the input reads as it did. -/
def fnValidPointJoinSpec : ChangeSpec := { name := "fnValidPointJoin", fn := fun _ => fun
  | [d1, d2] => { results := [.lit (.bool true)], args := [d1, d2] }
  | _ => none }
def fnValidPointJoinRow : OpenClaim := { program := "qxb6000513a", sum := "441f16106b59549aae3ee768b90c3eafaa684e12433eaa90828d00c79c1fa366", func := "example.com/vestline/vestline/zzlaws_decimal_b1.FnValidPointJoin", spec := "fnValidPointJoin", inPlace := ["internal/bytealg.IndexByteString", "internal/bytealg.IndexString"], named := ["internal/bytealg.MaxLen"], apart := false }
def FnValidPointJoinSaid : Prop := fnValidPointJoinRow.holds Try.pinned (OpenSpec.ofChange fnValidPointJoinSpec)

/-- ITS FALSE NEIGHBOUR: 'it returns false'. Refute it at one input. -/
def fnValidPointJoinWrong : ChangeSpec := { name := "fnValidPointJoin", fn := fun _ => fun
  | [d1, d2] => { results := [.lit (.bool false)], args := [d1, d2] }
  | _ => none }
def FnValidPointJoinWrongFalsely : Prop := fnValidPointJoinRow.holds Try.pinned (OpenSpec.ofChange fnValidPointJoinWrong)

/-- 'zzlaws_decimal_b1.FnAllDigitsConcat': WHATEVER THE INPUT: true; the input reads as it did. -/
def fnAllDigitsConcatSpec : ChangeSpec := { name := "fnAllDigitsConcat", fn := fun _ => fun
  | [d1, d2] => { results := [.lit (.bool true)], args := [d1, d2] }
  | _ => none }
def fnAllDigitsConcatRow : OpenClaim := { program := "qxb6000513a", sum := "441f16106b59549aae3ee768b90c3eafaa684e12433eaa90828d00c79c1fa366", func := "example.com/vestline/vestline/zzlaws_decimal_b1.FnAllDigitsConcat", spec := "fnAllDigitsConcat", apart := false }
def FnAllDigitsConcatSaid : Prop := fnAllDigitsConcatRow.holds Try.pinned (OpenSpec.ofChange fnAllDigitsConcatSpec)

/-- ITS FALSE NEIGHBOUR: 'it returns false'. Refute it at one input. -/
def fnAllDigitsConcatWrong : ChangeSpec := { name := "fnAllDigitsConcat", fn := fun _ => fun
  | [d1, d2] => { results := [.lit (.bool false)], args := [d1, d2] }
  | _ => none }
def FnAllDigitsConcatWrongFalsely : Prop := fnAllDigitsConcatRow.holds Try.pinned (OpenSpec.ofChange fnAllDigitsConcatWrong)

/-- 'zzlaws_decimal_b1.FnAllDigitsAgreesWithValid': WHATEVER THE INPUT: true; the input reads as it did. -/
def fnAllDigitsAgreesWithValidSpec : ChangeSpec := { name := "fnAllDigitsAgreesWithValid", fn := fun _ => fun
  | [d] => { results := [.lit (.bool true)], args := [d] }
  | _ => none }
def fnAllDigitsAgreesWithValidRow : OpenClaim := { program := "qxb6000513a", sum := "441f16106b59549aae3ee768b90c3eafaa684e12433eaa90828d00c79c1fa366", func := "example.com/vestline/vestline/zzlaws_decimal_b1.FnAllDigitsAgreesWithValid", spec := "fnAllDigitsAgreesWithValid", inPlace := ["internal/bytealg.IndexByteString", "internal/bytealg.IndexString"], named := ["internal/bytealg.MaxLen"], apart := false }
def FnAllDigitsAgreesWithValidSaid : Prop := fnAllDigitsAgreesWithValidRow.holds Try.pinned (OpenSpec.ofChange fnAllDigitsAgreesWithValidSpec)

/-- ITS FALSE NEIGHBOUR: 'it returns false'. Refute it at one input. -/
def fnAllDigitsAgreesWithValidWrong : ChangeSpec := { name := "fnAllDigitsAgreesWithValid", fn := fun _ => fun
  | [d] => { results := [.lit (.bool false)], args := [d] }
  | _ => none }
def FnAllDigitsAgreesWithValidWrongFalsely : Prop := fnAllDigitsAgreesWithValidRow.holds Try.pinned (OpenSpec.ofChange fnAllDigitsAgreesWithValidWrong)

/-- 'zzlaws_decimal_b1.FnMagnitudeSignSymmetry': WHATEVER THE INPUT: true; the input reads as it did. -/
def fnMagnitudeSignSymmetrySpec : ChangeSpec := { name := "fnMagnitudeSignSymmetry", fn := fun _ => fun
  | [d] => { results := [.lit (.bool true)], args := [d] }
  | _ => none }
def fnMagnitudeSignSymmetryRow : OpenClaim := { program := "qxb6000513a", sum := "441f16106b59549aae3ee768b90c3eafaa684e12433eaa90828d00c79c1fa366", func := "example.com/vestline/vestline/zzlaws_decimal_b1.FnMagnitudeSignSymmetry", spec := "fnMagnitudeSignSymmetry", apart := false }
def FnMagnitudeSignSymmetrySaid : Prop := fnMagnitudeSignSymmetryRow.holds Try.pinned (OpenSpec.ofChange fnMagnitudeSignSymmetrySpec)

/-- ITS FALSE NEIGHBOUR: 'it returns false'. Refute it at one input. -/
def fnMagnitudeSignSymmetryWrong : ChangeSpec := { name := "fnMagnitudeSignSymmetry", fn := fun _ => fun
  | [d] => { results := [.lit (.bool false)], args := [d] }
  | _ => none }
def FnMagnitudeSignSymmetryWrongFalsely : Prop := fnMagnitudeSignSymmetryRow.holds Try.pinned (OpenSpec.ofChange fnMagnitudeSignSymmetryWrong)

/-- 'zzlaws_decimal_b1.FnMagnitudeMonotone': WHATEVER THE INPUT: true; the input reads as it did. -/
def fnMagnitudeMonotoneSpec : ChangeSpec := { name := "fnMagnitudeMonotone", fn := fun _ => fun
  | [d1, d2] => { results := [.lit (.bool true)], args := [d1, d2] }
  | _ => none }
def fnMagnitudeMonotoneRow : OpenClaim := { program := "qxb6000513a", sum := "441f16106b59549aae3ee768b90c3eafaa684e12433eaa90828d00c79c1fa366", func := "example.com/vestline/vestline/zzlaws_decimal_b1.FnMagnitudeMonotone", spec := "fnMagnitudeMonotone", apart := false }
def FnMagnitudeMonotoneSaid : Prop := fnMagnitudeMonotoneRow.holds Try.pinned (OpenSpec.ofChange fnMagnitudeMonotoneSpec)

/-- ITS FALSE NEIGHBOUR: 'it returns false'. Refute it at one input. -/
def fnMagnitudeMonotoneWrong : ChangeSpec := { name := "fnMagnitudeMonotone", fn := fun _ => fun
  | [d1, d2] => { results := [.lit (.bool false)], args := [d1, d2] }
  | _ => none }
def FnMagnitudeMonotoneWrongFalsely : Prop := fnMagnitudeMonotoneRow.holds Try.pinned (OpenSpec.ofChange fnMagnitudeMonotoneWrong)

/-- 'zzlaws_decimal_b1.FnMagnitudeTriangle': WHATEVER THE INPUT: true; the input reads as it did. -/
def fnMagnitudeTriangleSpec : ChangeSpec := { name := "fnMagnitudeTriangle", fn := fun _ => fun
  | [d1, d2] => { results := [.lit (.bool true)], args := [d1, d2] }
  | _ => none }
def fnMagnitudeTriangleRow : OpenClaim := { program := "qxb6000513a", sum := "441f16106b59549aae3ee768b90c3eafaa684e12433eaa90828d00c79c1fa366", func := "example.com/vestline/vestline/zzlaws_decimal_b1.FnMagnitudeTriangle", spec := "fnMagnitudeTriangle", apart := false }
def FnMagnitudeTriangleSaid : Prop := fnMagnitudeTriangleRow.holds Try.pinned (OpenSpec.ofChange fnMagnitudeTriangleSpec)

/-- ITS FALSE NEIGHBOUR: 'it returns false'. Refute it at one input. -/
def fnMagnitudeTriangleWrong : ChangeSpec := { name := "fnMagnitudeTriangle", fn := fun _ => fun
  | [d1, d2] => { results := [.lit (.bool false)], args := [d1, d2] }
  | _ => none }
def FnMagnitudeTriangleWrongFalsely : Prop := fnMagnitudeTriangleRow.holds Try.pinned (OpenSpec.ofChange fnMagnitudeTriangleWrong)

end Rows
end Go.Proofs.Qxb6000513a
