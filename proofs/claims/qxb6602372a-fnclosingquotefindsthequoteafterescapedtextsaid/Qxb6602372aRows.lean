/-
  No cell of these rows narrows 'for every input' (looked for: loops, veiled, ifaces, maps, wideKeys, modest, calm, conditions, laid).
  DERIVED. THE GIVEN ROWS OF THIS SEAT. 8 by the template 'for every input the law returns true; each argument reads behind the call as it read before'; 0 by the template 'total and deterministic' (their statements: Qxb6602372aTotals.lean).
  GIVEN WITH THE SEED: the statements are not yours to turn. If you find one false, say at which input.
  Laid BY PROGRAM, IN A SANDBOX (cutbox-rows.mjs): the forced cells as the released guide's own fill.sh prints them over the translation 23d884f1d57a883c… (all of the seat's roots in one cut). By AI agents, Wed Nov 11 2026. No macro, syntax, notation, axiom, sorry.
-/
import Derived.Test.Qxb6602372aChecked
import GoSem.Claim
import GoSem.ClaimJoined
import GoSem.ClaimMapViews
import Derived.JoinedTies
import Derived.KernelRfl
namespace Go.Proofs.Qxb6602372a
/- THE CELL 'sum', in the pinned program and in every row, IS THE sha256 OF THE DUMP (.gsa) THAT Qxb6602372aProg.lean LOADS. Nothing in Lean hashes anything: it is a label: what it is worth is what the hold of that sum in a sandbox is worth. -/
noncomputable def Try.pinned : Pinned := { name := "qxb6602372a", sum := "23d884f1d57a883cdfb299d6219a9de7d63f288e7249c78b8394328f7136a534", checked := Try.checked }
namespace Rows
def none {H : Type} : Left H := { results := [], args := [] }

/-- 'zzlaws_internal_jsonscan_b1.FnClosingQuoteMatchesEscapeScanner': WHATEVER THE INPUT: true; the input reads as it did. -/
def fnClosingQuoteMatchesEscapeScannerSpec : ChangeSpec := { name := "fnClosingQuoteMatchesEscapeScanner", fn := fun _ => fun
  | [d1, d2] => { results := [.lit (.bool true)], args := [d1, d2] }
  | _ => none }
def fnClosingQuoteMatchesEscapeScannerRow : OpenClaim := { program := "qxb6602372a", sum := "23d884f1d57a883cdfb299d6219a9de7d63f288e7249c78b8394328f7136a534", func := "example.com/parley/parley/zzlaws_internal_jsonscan_b1.FnClosingQuoteMatchesEscapeScanner", spec := "fnClosingQuoteMatchesEscapeScanner", inPlace := ["internal/bytealg.IndexByte"], apart := false }
def FnClosingQuoteMatchesEscapeScannerSaid : Prop := fnClosingQuoteMatchesEscapeScannerRow.holds Try.pinned (OpenSpec.ofChange fnClosingQuoteMatchesEscapeScannerSpec)

/-- ITS FALSE NEIGHBOUR: 'it returns false'. Refute it at one input. -/
def fnClosingQuoteMatchesEscapeScannerWrong : ChangeSpec := { name := "fnClosingQuoteMatchesEscapeScanner", fn := fun _ => fun
  | [d1, d2] => { results := [.lit (.bool false)], args := [d1, d2] }
  | _ => none }
def FnClosingQuoteMatchesEscapeScannerWrongFalsely : Prop := fnClosingQuoteMatchesEscapeScannerRow.holds Try.pinned (OpenSpec.ofChange fnClosingQuoteMatchesEscapeScannerWrong)

/-- 'zzlaws_internal_jsonscan_b1.FnClosingQuoteIgnoresWhatFollows': WHATEVER THE INPUT: true; the input reads as it did. -/
def fnClosingQuoteIgnoresWhatFollowsSpec : ChangeSpec := { name := "fnClosingQuoteIgnoresWhatFollows", fn := fun _ => fun
  | [d1, d2, d3] => { results := [.lit (.bool true)], args := [d1, d2, d3] }
  | _ => none }
def fnClosingQuoteIgnoresWhatFollowsRow : OpenClaim := { program := "qxb6602372a", sum := "23d884f1d57a883cdfb299d6219a9de7d63f288e7249c78b8394328f7136a534", func := "example.com/parley/parley/zzlaws_internal_jsonscan_b1.FnClosingQuoteIgnoresWhatFollows", spec := "fnClosingQuoteIgnoresWhatFollows", inPlace := ["internal/bytealg.IndexByte"], apart := false }
def FnClosingQuoteIgnoresWhatFollowsSaid : Prop := fnClosingQuoteIgnoresWhatFollowsRow.holds Try.pinned (OpenSpec.ofChange fnClosingQuoteIgnoresWhatFollowsSpec)

/-- ITS FALSE NEIGHBOUR: 'it returns false'. Refute it at one input. -/
def fnClosingQuoteIgnoresWhatFollowsWrong : ChangeSpec := { name := "fnClosingQuoteIgnoresWhatFollows", fn := fun _ => fun
  | [d1, d2, d3] => { results := [.lit (.bool false)], args := [d1, d2, d3] }
  | _ => none }
def FnClosingQuoteIgnoresWhatFollowsWrongFalsely : Prop := fnClosingQuoteIgnoresWhatFollowsRow.holds Try.pinned (OpenSpec.ofChange fnClosingQuoteIgnoresWhatFollowsWrong)

/-- 'zzlaws_internal_jsonscan_b1.FnClosingQuoteFindsTheQuoteAfterEscapedText': WHATEVER THE INPUT: true; the input reads as it did. -/
def fnClosingQuoteFindsTheQuoteAfterEscapedTextSpec : ChangeSpec := { name := "fnClosingQuoteFindsTheQuoteAfterEscapedText", fn := fun _ => fun
  | [d1, d2, d3] => { results := [.lit (.bool true)], args := [d1, d2, d3] }
  | _ => none }
def fnClosingQuoteFindsTheQuoteAfterEscapedTextRow : OpenClaim := { program := "qxb6602372a", sum := "23d884f1d57a883cdfb299d6219a9de7d63f288e7249c78b8394328f7136a534", func := "example.com/parley/parley/zzlaws_internal_jsonscan_b1.FnClosingQuoteFindsTheQuoteAfterEscapedText", spec := "fnClosingQuoteFindsTheQuoteAfterEscapedText", inPlace := ["internal/bytealg.IndexByte"], apart := false }
def FnClosingQuoteFindsTheQuoteAfterEscapedTextSaid : Prop := fnClosingQuoteFindsTheQuoteAfterEscapedTextRow.holds Try.pinned (OpenSpec.ofChange fnClosingQuoteFindsTheQuoteAfterEscapedTextSpec)

/-- ITS FALSE NEIGHBOUR: 'it returns false'. Refute it at one input. -/
def fnClosingQuoteFindsTheQuoteAfterEscapedTextWrong : ChangeSpec := { name := "fnClosingQuoteFindsTheQuoteAfterEscapedText", fn := fun _ => fun
  | [d1, d2, d3] => { results := [.lit (.bool false)], args := [d1, d2, d3] }
  | _ => none }
def FnClosingQuoteFindsTheQuoteAfterEscapedTextWrongFalsely : Prop := fnClosingQuoteFindsTheQuoteAfterEscapedTextRow.holds Try.pinned (OpenSpec.ofChange fnClosingQuoteFindsTheQuoteAfterEscapedTextWrong)

/-- 'zzlaws_internal_jsonscan_b1.FnValueEndMatchesOnePassScanner': WHATEVER THE INPUT: true; the input reads as it did. -/
def fnValueEndMatchesOnePassScannerSpec : ChangeSpec := { name := "fnValueEndMatchesOnePassScanner", fn := fun _ => fun
  | [d1, d2] => { results := [.lit (.bool true)], args := [d1, d2] }
  | _ => none }
def fnValueEndMatchesOnePassScannerRow : OpenClaim := { program := "qxb6602372a", sum := "23d884f1d57a883cdfb299d6219a9de7d63f288e7249c78b8394328f7136a534", func := "example.com/parley/parley/zzlaws_internal_jsonscan_b1.FnValueEndMatchesOnePassScanner", spec := "fnValueEndMatchesOnePassScanner", inPlace := ["internal/bytealg.IndexByte"], apart := false }
def FnValueEndMatchesOnePassScannerSaid : Prop := fnValueEndMatchesOnePassScannerRow.holds Try.pinned (OpenSpec.ofChange fnValueEndMatchesOnePassScannerSpec)

/-- ITS FALSE NEIGHBOUR: 'it returns false'. Refute it at one input. -/
def fnValueEndMatchesOnePassScannerWrong : ChangeSpec := { name := "fnValueEndMatchesOnePassScanner", fn := fun _ => fun
  | [d1, d2] => { results := [.lit (.bool false)], args := [d1, d2] }
  | _ => none }
def FnValueEndMatchesOnePassScannerWrongFalsely : Prop := fnValueEndMatchesOnePassScannerRow.holds Try.pinned (OpenSpec.ofChange fnValueEndMatchesOnePassScannerWrong)

/-- 'zzlaws_internal_jsonscan_b1.FnValueEndReadsTheSameValueCutOut': WHATEVER THE INPUT: true; the input reads as it did. -/
def fnValueEndReadsTheSameValueCutOutSpec : ChangeSpec := { name := "fnValueEndReadsTheSameValueCutOut", fn := fun _ => fun
  | [d1, d2] => { results := [.lit (.bool true)], args := [d1, d2] }
  | _ => none }
def fnValueEndReadsTheSameValueCutOutRow : OpenClaim := { program := "qxb6602372a", sum := "23d884f1d57a883cdfb299d6219a9de7d63f288e7249c78b8394328f7136a534", func := "example.com/parley/parley/zzlaws_internal_jsonscan_b1.FnValueEndReadsTheSameValueCutOut", spec := "fnValueEndReadsTheSameValueCutOut", inPlace := ["internal/bytealg.IndexByte"], apart := false }
def FnValueEndReadsTheSameValueCutOutSaid : Prop := fnValueEndReadsTheSameValueCutOutRow.holds Try.pinned (OpenSpec.ofChange fnValueEndReadsTheSameValueCutOutSpec)

/-- ITS FALSE NEIGHBOUR: 'it returns false'. Refute it at one input. -/
def fnValueEndReadsTheSameValueCutOutWrong : ChangeSpec := { name := "fnValueEndReadsTheSameValueCutOut", fn := fun _ => fun
  | [d1, d2] => { results := [.lit (.bool false)], args := [d1, d2] }
  | _ => none }
def FnValueEndReadsTheSameValueCutOutWrongFalsely : Prop := fnValueEndReadsTheSameValueCutOutRow.holds Try.pinned (OpenSpec.ofChange fnValueEndReadsTheSameValueCutOutWrong)

/-- 'zzlaws_internal_jsonscan_b1.FnValueEndIgnoresWhatFollowsAClosedValue': WHATEVER THE INPUT: true; the input reads as it did. -/
def fnValueEndIgnoresWhatFollowsAClosedValueSpec : ChangeSpec := { name := "fnValueEndIgnoresWhatFollowsAClosedValue", fn := fun _ => fun
  | [d1, d2, d3] => { results := [.lit (.bool true)], args := [d1, d2, d3] }
  | _ => none }
def fnValueEndIgnoresWhatFollowsAClosedValueRow : OpenClaim := { program := "qxb6602372a", sum := "23d884f1d57a883cdfb299d6219a9de7d63f288e7249c78b8394328f7136a534", func := "example.com/parley/parley/zzlaws_internal_jsonscan_b1.FnValueEndIgnoresWhatFollowsAClosedValue", spec := "fnValueEndIgnoresWhatFollowsAClosedValue", inPlace := ["internal/bytealg.IndexByte"], apart := false }
def FnValueEndIgnoresWhatFollowsAClosedValueSaid : Prop := fnValueEndIgnoresWhatFollowsAClosedValueRow.holds Try.pinned (OpenSpec.ofChange fnValueEndIgnoresWhatFollowsAClosedValueSpec)

/-- ITS FALSE NEIGHBOUR: 'it returns false'. Refute it at one input. -/
def fnValueEndIgnoresWhatFollowsAClosedValueWrong : ChangeSpec := { name := "fnValueEndIgnoresWhatFollowsAClosedValue", fn := fun _ => fun
  | [d1, d2, d3] => { results := [.lit (.bool false)], args := [d1, d2, d3] }
  | _ => none }
def FnValueEndIgnoresWhatFollowsAClosedValueWrongFalsely : Prop := fnValueEndIgnoresWhatFollowsAClosedValueRow.holds Try.pinned (OpenSpec.ofChange fnValueEndIgnoresWhatFollowsAClosedValueWrong)

/-- 'zzlaws_internal_jsonscan_b1.FnPushSetsOnlyTheNewBit': WHATEVER THE INPUT: true; the input reads as it did. -/
def fnPushSetsOnlyTheNewBitSpec : ChangeSpec := { name := "fnPushSetsOnlyTheNewBit", fn := fun _ => fun
  | [d1, d2, d3] => { results := [.lit (.bool true)], args := [d1, d2, d3] }
  | _ => none }
def fnPushSetsOnlyTheNewBitRow : OpenClaim := { program := "qxb6602372a", sum := "23d884f1d57a883cdfb299d6219a9de7d63f288e7249c78b8394328f7136a534", func := "example.com/parley/parley/zzlaws_internal_jsonscan_b1.FnPushSetsOnlyTheNewBit", spec := "fnPushSetsOnlyTheNewBit", apart := false }
def FnPushSetsOnlyTheNewBitSaid : Prop := fnPushSetsOnlyTheNewBitRow.holds Try.pinned (OpenSpec.ofChange fnPushSetsOnlyTheNewBitSpec)

/-- ITS FALSE NEIGHBOUR: 'it returns false'. Refute it at one input. -/
def fnPushSetsOnlyTheNewBitWrong : ChangeSpec := { name := "fnPushSetsOnlyTheNewBit", fn := fun _ => fun
  | [d1, d2, d3] => { results := [.lit (.bool false)], args := [d1, d2, d3] }
  | _ => none }
def FnPushSetsOnlyTheNewBitWrongFalsely : Prop := fnPushSetsOnlyTheNewBitRow.holds Try.pinned (OpenSpec.ofChange fnPushSetsOnlyTheNewBitWrong)

/-- 'zzlaws_internal_jsonscan_b1.FnPushScriptRecordsEachFlag': WHATEVER THE INPUT: true; the input reads as it did. -/
def fnPushScriptRecordsEachFlagSpec : ChangeSpec := { name := "fnPushScriptRecordsEachFlag", fn := fun _ => fun
  | [d] => { results := [.lit (.bool true)], args := [d] }
  | _ => none }
def fnPushScriptRecordsEachFlagRow : OpenClaim := { program := "qxb6602372a", sum := "23d884f1d57a883cdfb299d6219a9de7d63f288e7249c78b8394328f7136a534", func := "example.com/parley/parley/zzlaws_internal_jsonscan_b1.FnPushScriptRecordsEachFlag", spec := "fnPushScriptRecordsEachFlag", apart := false }
def FnPushScriptRecordsEachFlagSaid : Prop := fnPushScriptRecordsEachFlagRow.holds Try.pinned (OpenSpec.ofChange fnPushScriptRecordsEachFlagSpec)

/-- ITS FALSE NEIGHBOUR: 'it returns false'. Refute it at one input. -/
def fnPushScriptRecordsEachFlagWrong : ChangeSpec := { name := "fnPushScriptRecordsEachFlag", fn := fun _ => fun
  | [d] => { results := [.lit (.bool false)], args := [d] }
  | _ => none }
def FnPushScriptRecordsEachFlagWrongFalsely : Prop := fnPushScriptRecordsEachFlagRow.holds Try.pinned (OpenSpec.ofChange fnPushScriptRecordsEachFlagWrong)

end Rows
end Go.Proofs.Qxb6602372a
