/-
  No cell of these rows narrows 'for every input' (looked for: loops, veiled, ifaces, maps, wideKeys, modest, calm, conditions, laid).
  DERIVED. THE GIVEN ROWS OF THIS SEAT. 9 by the template 'for every input the law returns true; each argument reads behind the call as it read before'; 0 by the template 'total and deterministic' (their statements: Qxb6000374aTotals.lean).
  GIVEN WITH THE SEED: the statements are not yours to turn. If you find one false, say at which input.
  Laid BY PROGRAM, IN A SANDBOX (cutbox-rows.mjs): the forced cells as the released guide's own fill.sh prints them over the translation 7da59def2ddda976… (all of the seat's roots in one cut). By AI agents, Wed Nov 11 2026. No macro, syntax, notation, axiom, sorry.
-/
import Derived.Test.Qxb6000374aChecked
import GoSem.Claim
import GoSem.ClaimJoined
import GoSem.ClaimMapViews
import Derived.JoinedTies
import Derived.KernelRfl
namespace Go.Proofs.Qxb6000374a
/- THE CELL 'sum', in the pinned program and in every row, IS THE sha256 OF THE DUMP (.gsa) THAT Qxb6000374aProg.lean LOADS. Nothing in Lean hashes anything: it is a label: what it is worth is what the hold of that sum in a sandbox is worth. -/
noncomputable def Try.pinned : Pinned := { name := "qxb6000374a", sum := "7da59def2ddda9760126bc4eb9b1f998d61ec812db9610bce42d8ddf30745255", checked := Try.checked }
namespace Rows
def none {H : Type} : Left H := { results := [], args := [] }

/-- 'zzlaws_internal_jsonscan_b1.FnStringEndAgreesWithAForwardScanner': WHATEVER THE INPUT: true; the input reads as it did. -/
def fnStringEndAgreesWithAForwardScannerSpec : ChangeSpec := { name := "fnStringEndAgreesWithAForwardScanner", fn := fun _ => fun
  | [d1, d2] => { results := [.lit (.bool true)], args := [d1, d2] }
  | _ => none }
def fnStringEndAgreesWithAForwardScannerRow : OpenClaim := { program := "qxb6000374a", sum := "7da59def2ddda9760126bc4eb9b1f998d61ec812db9610bce42d8ddf30745255", func := "example.com/steward/steward/zzlaws_internal_jsonscan_b1.FnStringEndAgreesWithAForwardScanner", spec := "fnStringEndAgreesWithAForwardScanner", inPlace := ["internal/bytealg.IndexByte"], apart := false }
def FnStringEndAgreesWithAForwardScannerSaid : Prop := fnStringEndAgreesWithAForwardScannerRow.holds Try.pinned (OpenSpec.ofChange fnStringEndAgreesWithAForwardScannerSpec)

/-- ITS FALSE NEIGHBOUR: 'it returns false'. Refute it at one input. -/
def fnStringEndAgreesWithAForwardScannerWrong : ChangeSpec := { name := "fnStringEndAgreesWithAForwardScanner", fn := fun _ => fun
  | [d1, d2] => { results := [.lit (.bool false)], args := [d1, d2] }
  | _ => none }
def FnStringEndAgreesWithAForwardScannerWrongFalsely : Prop := fnStringEndAgreesWithAForwardScannerRow.holds Try.pinned (OpenSpec.ofChange fnStringEndAgreesWithAForwardScannerWrong)

/-- 'zzlaws_internal_jsonscan_b1.FnStringEndIsDecidedByWhatLiesBeforeIt': WHATEVER THE INPUT: true; the input reads as it did. -/
def fnStringEndIsDecidedByWhatLiesBeforeItSpec : ChangeSpec := { name := "fnStringEndIsDecidedByWhatLiesBeforeIt", fn := fun _ => fun
  | [d1, d2, d3] => { results := [.lit (.bool true)], args := [d1, d2, d3] }
  | _ => none }
def fnStringEndIsDecidedByWhatLiesBeforeItRow : OpenClaim := { program := "qxb6000374a", sum := "7da59def2ddda9760126bc4eb9b1f998d61ec812db9610bce42d8ddf30745255", func := "example.com/steward/steward/zzlaws_internal_jsonscan_b1.FnStringEndIsDecidedByWhatLiesBeforeIt", spec := "fnStringEndIsDecidedByWhatLiesBeforeIt", inPlace := ["internal/bytealg.IndexByte"], apart := false }
def FnStringEndIsDecidedByWhatLiesBeforeItSaid : Prop := fnStringEndIsDecidedByWhatLiesBeforeItRow.holds Try.pinned (OpenSpec.ofChange fnStringEndIsDecidedByWhatLiesBeforeItSpec)

/-- ITS FALSE NEIGHBOUR: 'it returns false'. Refute it at one input. -/
def fnStringEndIsDecidedByWhatLiesBeforeItWrong : ChangeSpec := { name := "fnStringEndIsDecidedByWhatLiesBeforeIt", fn := fun _ => fun
  | [d1, d2, d3] => { results := [.lit (.bool false)], args := [d1, d2, d3] }
  | _ => none }
def FnStringEndIsDecidedByWhatLiesBeforeItWrongFalsely : Prop := fnStringEndIsDecidedByWhatLiesBeforeItRow.holds Try.pinned (OpenSpec.ofChange fnStringEndIsDecidedByWhatLiesBeforeItWrong)

/-- 'zzlaws_internal_jsonscan_b1.FnStringEndFindsTheQuoteThatClosesAnEscapedText': WHATEVER THE INPUT: true; the input reads as it did. -/
def fnStringEndFindsTheQuoteThatClosesAnEscapedTextSpec : ChangeSpec := { name := "fnStringEndFindsTheQuoteThatClosesAnEscapedText", fn := fun _ => fun
  | [d1, d2, d3] => { results := [.lit (.bool true)], args := [d1, d2, d3] }
  | _ => none }
def fnStringEndFindsTheQuoteThatClosesAnEscapedTextRow : OpenClaim := { program := "qxb6000374a", sum := "7da59def2ddda9760126bc4eb9b1f998d61ec812db9610bce42d8ddf30745255", func := "example.com/steward/steward/zzlaws_internal_jsonscan_b1.FnStringEndFindsTheQuoteThatClosesAnEscapedText", spec := "fnStringEndFindsTheQuoteThatClosesAnEscapedText", inPlace := ["internal/bytealg.IndexByte"], apart := false }
def FnStringEndFindsTheQuoteThatClosesAnEscapedTextSaid : Prop := fnStringEndFindsTheQuoteThatClosesAnEscapedTextRow.holds Try.pinned (OpenSpec.ofChange fnStringEndFindsTheQuoteThatClosesAnEscapedTextSpec)

/-- ITS FALSE NEIGHBOUR: 'it returns false'. Refute it at one input. -/
def fnStringEndFindsTheQuoteThatClosesAnEscapedTextWrong : ChangeSpec := { name := "fnStringEndFindsTheQuoteThatClosesAnEscapedText", fn := fun _ => fun
  | [d1, d2, d3] => { results := [.lit (.bool false)], args := [d1, d2, d3] }
  | _ => none }
def FnStringEndFindsTheQuoteThatClosesAnEscapedTextWrongFalsely : Prop := fnStringEndFindsTheQuoteThatClosesAnEscapedTextRow.holds Try.pinned (OpenSpec.ofChange fnStringEndFindsTheQuoteThatClosesAnEscapedTextWrong)

/-- 'zzlaws_internal_jsonscan_b1.FnValueEndFindsTheEndOfAWrittenValue': WHATEVER THE INPUT: true; the input reads as it did. -/
def fnValueEndFindsTheEndOfAWrittenValueSpec : ChangeSpec := { name := "fnValueEndFindsTheEndOfAWrittenValue", fn := fun _ => fun
  | [d1, d2, d3] => { results := [.lit (.bool true)], args := [d1, d2, d3] }
  | _ => none }
def fnValueEndFindsTheEndOfAWrittenValueRow : OpenClaim := { program := "qxb6000374a", sum := "7da59def2ddda9760126bc4eb9b1f998d61ec812db9610bce42d8ddf30745255", func := "example.com/steward/steward/zzlaws_internal_jsonscan_b1.FnValueEndFindsTheEndOfAWrittenValue", spec := "fnValueEndFindsTheEndOfAWrittenValue", inPlace := ["internal/bytealg.IndexByte", "internal/bytealg.IndexByteString"], apart := false }
def FnValueEndFindsTheEndOfAWrittenValueSaid : Prop := fnValueEndFindsTheEndOfAWrittenValueRow.holds Try.pinned (OpenSpec.ofChange fnValueEndFindsTheEndOfAWrittenValueSpec)

/-- ITS FALSE NEIGHBOUR: 'it returns false'. Refute it at one input. -/
def fnValueEndFindsTheEndOfAWrittenValueWrong : ChangeSpec := { name := "fnValueEndFindsTheEndOfAWrittenValue", fn := fun _ => fun
  | [d1, d2, d3] => { results := [.lit (.bool false)], args := [d1, d2, d3] }
  | _ => none }
def FnValueEndFindsTheEndOfAWrittenValueWrongFalsely : Prop := fnValueEndFindsTheEndOfAWrittenValueRow.holds Try.pinned (OpenSpec.ofChange fnValueEndFindsTheEndOfAWrittenValueWrong)

/-- 'zzlaws_internal_jsonscan_b1.FnValueEndRefusesACutValue': WHATEVER THE INPUT: true; the input reads as it did. -/
def fnValueEndRefusesACutValueSpec : ChangeSpec := { name := "fnValueEndRefusesACutValue", fn := fun _ => fun
  | [d1, d2] => { results := [.lit (.bool true)], args := [d1, d2] }
  | _ => none }
def fnValueEndRefusesACutValueRow : OpenClaim := { program := "qxb6000374a", sum := "7da59def2ddda9760126bc4eb9b1f998d61ec812db9610bce42d8ddf30745255", func := "example.com/steward/steward/zzlaws_internal_jsonscan_b1.FnValueEndRefusesACutValue", spec := "fnValueEndRefusesACutValue", inPlace := ["internal/bytealg.IndexByte", "internal/bytealg.IndexByteString"], apart := false }
def FnValueEndRefusesACutValueSaid : Prop := fnValueEndRefusesACutValueRow.holds Try.pinned (OpenSpec.ofChange fnValueEndRefusesACutValueSpec)

/-- ITS FALSE NEIGHBOUR: 'it returns false'. Refute it at one input. -/
def fnValueEndRefusesACutValueWrong : ChangeSpec := { name := "fnValueEndRefusesACutValue", fn := fun _ => fun
  | [d1, d2] => { results := [.lit (.bool false)], args := [d1, d2] }
  | _ => none }
def FnValueEndRefusesACutValueWrongFalsely : Prop := fnValueEndRefusesACutValueRow.holds Try.pinned (OpenSpec.ofChange fnValueEndRefusesACutValueWrong)

/-- 'zzlaws_internal_jsonscan_b1.FnValueEndIsDecidedByWhatLiesBeforeIt': WHATEVER THE INPUT: true; the input reads as it did. -/
def fnValueEndIsDecidedByWhatLiesBeforeItSpec : ChangeSpec := { name := "fnValueEndIsDecidedByWhatLiesBeforeIt", fn := fun _ => fun
  | [d1, d2, d3] => { results := [.lit (.bool true)], args := [d1, d2, d3] }
  | _ => none }
def fnValueEndIsDecidedByWhatLiesBeforeItRow : OpenClaim := { program := "qxb6000374a", sum := "7da59def2ddda9760126bc4eb9b1f998d61ec812db9610bce42d8ddf30745255", func := "example.com/steward/steward/zzlaws_internal_jsonscan_b1.FnValueEndIsDecidedByWhatLiesBeforeIt", spec := "fnValueEndIsDecidedByWhatLiesBeforeIt", inPlace := ["internal/bytealg.IndexByte", "internal/bytealg.IndexByteString"], apart := false }
def FnValueEndIsDecidedByWhatLiesBeforeItSaid : Prop := fnValueEndIsDecidedByWhatLiesBeforeItRow.holds Try.pinned (OpenSpec.ofChange fnValueEndIsDecidedByWhatLiesBeforeItSpec)

/-- ITS FALSE NEIGHBOUR: 'it returns false'. Refute it at one input. -/
def fnValueEndIsDecidedByWhatLiesBeforeItWrong : ChangeSpec := { name := "fnValueEndIsDecidedByWhatLiesBeforeIt", fn := fun _ => fun
  | [d1, d2, d3] => { results := [.lit (.bool false)], args := [d1, d2, d3] }
  | _ => none }
def FnValueEndIsDecidedByWhatLiesBeforeItWrongFalsely : Prop := fnValueEndIsDecidedByWhatLiesBeforeItRow.holds Try.pinned (OpenSpec.ofChange fnValueEndIsDecidedByWhatLiesBeforeItWrong)

/-- 'zzlaws_internal_jsonscan_b1.FnHex4ReadsWhatFourDigitsWrite': WHATEVER THE INPUT: true; the input reads as it did. -/
def fnHex4ReadsWhatFourDigitsWriteSpec : ChangeSpec := { name := "fnHex4ReadsWhatFourDigitsWrite", fn := fun _ => fun
  | [d1, d2] => { results := [.lit (.bool true)], args := [d1, d2] }
  | _ => none }
def fnHex4ReadsWhatFourDigitsWriteRow : OpenClaim := { program := "qxb6000374a", sum := "7da59def2ddda9760126bc4eb9b1f998d61ec812db9610bce42d8ddf30745255", func := "example.com/steward/steward/zzlaws_internal_jsonscan_b1.FnHex4ReadsWhatFourDigitsWrite", spec := "fnHex4ReadsWhatFourDigitsWrite", apart := false }
def FnHex4ReadsWhatFourDigitsWriteSaid : Prop := fnHex4ReadsWhatFourDigitsWriteRow.holds Try.pinned (OpenSpec.ofChange fnHex4ReadsWhatFourDigitsWriteSpec)

/-- ITS FALSE NEIGHBOUR: 'it returns false'. Refute it at one input. -/
def fnHex4ReadsWhatFourDigitsWriteWrong : ChangeSpec := { name := "fnHex4ReadsWhatFourDigitsWrite", fn := fun _ => fun
  | [d1, d2] => { results := [.lit (.bool false)], args := [d1, d2] }
  | _ => none }
def FnHex4ReadsWhatFourDigitsWriteWrongFalsely : Prop := fnHex4ReadsWhatFourDigitsWriteRow.holds Try.pinned (OpenSpec.ofChange fnHex4ReadsWhatFourDigitsWriteWrong)

/-- 'zzlaws_internal_jsonscan_b1.FnHex4ThenWritingGivesTheDigitsBack': WHATEVER THE INPUT: true; the input reads as it did. -/
def fnHex4ThenWritingGivesTheDigitsBackSpec : ChangeSpec := { name := "fnHex4ThenWritingGivesTheDigitsBack", fn := fun _ => fun
  | [d] => { results := [.lit (.bool true)], args := [d] }
  | _ => none }
def fnHex4ThenWritingGivesTheDigitsBackRow : OpenClaim := { program := "qxb6000374a", sum := "7da59def2ddda9760126bc4eb9b1f998d61ec812db9610bce42d8ddf30745255", func := "example.com/steward/steward/zzlaws_internal_jsonscan_b1.FnHex4ThenWritingGivesTheDigitsBack", spec := "fnHex4ThenWritingGivesTheDigitsBack", apart := false }
def FnHex4ThenWritingGivesTheDigitsBackSaid : Prop := fnHex4ThenWritingGivesTheDigitsBackRow.holds Try.pinned (OpenSpec.ofChange fnHex4ThenWritingGivesTheDigitsBackSpec)

/-- ITS FALSE NEIGHBOUR: 'it returns false'. Refute it at one input. -/
def fnHex4ThenWritingGivesTheDigitsBackWrong : ChangeSpec := { name := "fnHex4ThenWritingGivesTheDigitsBack", fn := fun _ => fun
  | [d] => { results := [.lit (.bool false)], args := [d] }
  | _ => none }
def FnHex4ThenWritingGivesTheDigitsBackWrongFalsely : Prop := fnHex4ThenWritingGivesTheDigitsBackRow.holds Try.pinned (OpenSpec.ofChange fnHex4ThenWritingGivesTheDigitsBackWrong)

/-- 'zzlaws_internal_jsonscan_b1.FnHex4KeepsTheOrderOfDigits': WHATEVER THE INPUT: true; the input reads as it did. -/
def fnHex4KeepsTheOrderOfDigitsSpec : ChangeSpec := { name := "fnHex4KeepsTheOrderOfDigits", fn := fun _ => fun
  | [d1, d2] => { results := [.lit (.bool true)], args := [d1, d2] }
  | _ => none }
def fnHex4KeepsTheOrderOfDigitsRow : OpenClaim := { program := "qxb6000374a", sum := "7da59def2ddda9760126bc4eb9b1f998d61ec812db9610bce42d8ddf30745255", func := "example.com/steward/steward/zzlaws_internal_jsonscan_b1.FnHex4KeepsTheOrderOfDigits", spec := "fnHex4KeepsTheOrderOfDigits", apart := false }
def FnHex4KeepsTheOrderOfDigitsSaid : Prop := fnHex4KeepsTheOrderOfDigitsRow.holds Try.pinned (OpenSpec.ofChange fnHex4KeepsTheOrderOfDigitsSpec)

/-- ITS FALSE NEIGHBOUR: 'it returns false'. Refute it at one input. -/
def fnHex4KeepsTheOrderOfDigitsWrong : ChangeSpec := { name := "fnHex4KeepsTheOrderOfDigits", fn := fun _ => fun
  | [d1, d2] => { results := [.lit (.bool false)], args := [d1, d2] }
  | _ => none }
def FnHex4KeepsTheOrderOfDigitsWrongFalsely : Prop := fnHex4KeepsTheOrderOfDigitsRow.holds Try.pinned (OpenSpec.ofChange fnHex4KeepsTheOrderOfDigitsWrong)

end Rows
end Go.Proofs.Qxb6000374a
