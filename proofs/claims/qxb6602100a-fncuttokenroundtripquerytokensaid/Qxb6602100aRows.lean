/-
  No cell of these rows narrows 'for every input' (looked for: loops, veiled, ifaces, maps, wideKeys, modest, calm, conditions, laid).
  DERIVED. THE GIVEN ROWS OF THIS SEAT. 7 by the template 'for every input the law returns true; each argument reads behind the call as it read before'; 0 by the template 'total and deterministic' (their statements: Qxb6602100aTotals.lean).
  GIVEN WITH THE SEED: the statements are not yours to turn. If you find one false, say at which input.
  Laid BY PROGRAM, IN A SANDBOX (cutbox-rows.mjs): the forced cells as the released guide's own fill.sh prints them over the translation 5c1a51d1a8a0490b… (all of the seat's roots in one cut). By AI agents, Wed Nov 11 2026. No macro, syntax, notation, axiom, sorry.
-/
import Derived.Test.Qxb6602100aChecked
import GoSem.Claim
import GoSem.ClaimJoined
import GoSem.ClaimMapViews
import Derived.JoinedTies
import Derived.KernelRfl
namespace Go.Proofs.Qxb6602100a
/- THE CELL 'sum', in the pinned program and in every row, IS THE sha256 OF THE DUMP (.gsa) THAT Qxb6602100aProg.lean LOADS. Nothing in Lean hashes anything: it is a label: what it is worth is what the hold of that sum in a sandbox is worth. -/
noncomputable def Try.pinned : Pinned := { name := "qxb6602100a", sum := "5c1a51d1a8a0490b4f7b6dc350910fc6bf4d11f26d63d10cfca5f6db665d923c", checked := Try.checked }
namespace Rows
def none {H : Type} : Left H := { results := [], args := [] }

/-- 'zzlaws_root_b1.FnIntervalLenMatchesBraceModel': WHATEVER THE INPUT: true; the input reads as it did. -/
def fnIntervalLenMatchesBraceModelSpec : ChangeSpec := { name := "fnIntervalLenMatchesBraceModel", fn := fun _ => fun
  | [d] => { results := [.lit (.bool true)], args := [d] }
  | _ => none }
def fnIntervalLenMatchesBraceModelRow : OpenClaim := { program := "qxb6602100a", sum := "5c1a51d1a8a0490b4f7b6dc350910fc6bf4d11f26d63d10cfca5f6db665d923c", func := "example.com/gatemark/gatemark/zzlaws_root_b1.FnIntervalLenMatchesBraceModel", spec := "fnIntervalLenMatchesBraceModel", unfollowed := true, recurses := true, apart := false }
def FnIntervalLenMatchesBraceModelSaid : Prop := fnIntervalLenMatchesBraceModelRow.holds Try.pinned (OpenSpec.ofChange fnIntervalLenMatchesBraceModelSpec)

/-- ITS FALSE NEIGHBOUR: 'it returns false'. Refute it at one input. -/
def fnIntervalLenMatchesBraceModelWrong : ChangeSpec := { name := "fnIntervalLenMatchesBraceModel", fn := fun _ => fun
  | [d] => { results := [.lit (.bool false)], args := [d] }
  | _ => none }
def FnIntervalLenMatchesBraceModelWrongFalsely : Prop := fnIntervalLenMatchesBraceModelRow.holds Try.pinned (OpenSpec.ofChange fnIntervalLenMatchesBraceModelWrong)

/-- 'zzlaws_root_b1.FnIntervalLenFoundIntervalIsExactPrefix': WHATEVER THE INPUT: true; the input reads as it did. -/
def fnIntervalLenFoundIntervalIsExactPrefixSpec : ChangeSpec := { name := "fnIntervalLenFoundIntervalIsExactPrefix", fn := fun _ => fun
  | [d1, d2] => { results := [.lit (.bool true)], args := [d1, d2] }
  | _ => none }
def fnIntervalLenFoundIntervalIsExactPrefixRow : OpenClaim := { program := "qxb6602100a", sum := "5c1a51d1a8a0490b4f7b6dc350910fc6bf4d11f26d63d10cfca5f6db665d923c", func := "example.com/gatemark/gatemark/zzlaws_root_b1.FnIntervalLenFoundIntervalIsExactPrefix", spec := "fnIntervalLenFoundIntervalIsExactPrefix", unfollowed := true, recurses := true, apart := false }
def FnIntervalLenFoundIntervalIsExactPrefixSaid : Prop := fnIntervalLenFoundIntervalIsExactPrefixRow.holds Try.pinned (OpenSpec.ofChange fnIntervalLenFoundIntervalIsExactPrefixSpec)

/-- ITS FALSE NEIGHBOUR: 'it returns false'. Refute it at one input. -/
def fnIntervalLenFoundIntervalIsExactPrefixWrong : ChangeSpec := { name := "fnIntervalLenFoundIntervalIsExactPrefix", fn := fun _ => fun
  | [d1, d2] => { results := [.lit (.bool false)], args := [d1, d2] }
  | _ => none }
def FnIntervalLenFoundIntervalIsExactPrefixWrongFalsely : Prop := fnIntervalLenFoundIntervalIsExactPrefixRow.holds Try.pinned (OpenSpec.ofChange fnIntervalLenFoundIntervalIsExactPrefixWrong)

/-- 'zzlaws_root_b1.FnCutTokenMatchesScanModel': WHATEVER THE INPUT: true; the input reads as it did. -/
def fnCutTokenMatchesScanModelSpec : ChangeSpec := { name := "fnCutTokenMatchesScanModel", fn := fun _ => fun
  | [d] => { results := [.lit (.bool true)], args := [d] }
  | _ => none }
def fnCutTokenMatchesScanModelRow : OpenClaim := { program := "qxb6602100a", sum := "5c1a51d1a8a0490b4f7b6dc350910fc6bf4d11f26d63d10cfca5f6db665d923c", func := "example.com/gatemark/gatemark/zzlaws_root_b1.FnCutTokenMatchesScanModel", spec := "fnCutTokenMatchesScanModel", inPlace := ["internal/bytealg.IndexByteString", "internal/bytealg.IndexString"], named := ["internal/bytealg.MaxLen"], apart := false }
def FnCutTokenMatchesScanModelSaid : Prop := fnCutTokenMatchesScanModelRow.holds Try.pinned (OpenSpec.ofChange fnCutTokenMatchesScanModelSpec)

/-- ITS FALSE NEIGHBOUR: 'it returns false'. Refute it at one input. -/
def fnCutTokenMatchesScanModelWrong : ChangeSpec := { name := "fnCutTokenMatchesScanModel", fn := fun _ => fun
  | [d] => { results := [.lit (.bool false)], args := [d] }
  | _ => none }
def FnCutTokenMatchesScanModelWrongFalsely : Prop := fnCutTokenMatchesScanModelRow.holds Try.pinned (OpenSpec.ofChange fnCutTokenMatchesScanModelWrong)

/-- 'zzlaws_root_b1.FnCutTokenCutsOneBlockOrNothing': WHATEVER THE INPUT: true; the input reads as it did. -/
def fnCutTokenCutsOneBlockOrNothingSpec : ChangeSpec := { name := "fnCutTokenCutsOneBlockOrNothing", fn := fun _ => fun
  | [d] => { results := [.lit (.bool true)], args := [d] }
  | _ => none }
def fnCutTokenCutsOneBlockOrNothingRow : OpenClaim := { program := "qxb6602100a", sum := "5c1a51d1a8a0490b4f7b6dc350910fc6bf4d11f26d63d10cfca5f6db665d923c", func := "example.com/gatemark/gatemark/zzlaws_root_b1.FnCutTokenCutsOneBlockOrNothing", spec := "fnCutTokenCutsOneBlockOrNothing", inPlace := ["internal/bytealg.IndexByteString", "internal/bytealg.IndexString"], named := ["internal/bytealg.MaxLen"], apart := false }
def FnCutTokenCutsOneBlockOrNothingSaid : Prop := fnCutTokenCutsOneBlockOrNothingRow.holds Try.pinned (OpenSpec.ofChange fnCutTokenCutsOneBlockOrNothingSpec)

/-- ITS FALSE NEIGHBOUR: 'it returns false'. Refute it at one input. -/
def fnCutTokenCutsOneBlockOrNothingWrong : ChangeSpec := { name := "fnCutTokenCutsOneBlockOrNothing", fn := fun _ => fun
  | [d] => { results := [.lit (.bool false)], args := [d] }
  | _ => none }
def FnCutTokenCutsOneBlockOrNothingWrongFalsely : Prop := fnCutTokenCutsOneBlockOrNothingRow.holds Try.pinned (OpenSpec.ofChange fnCutTokenCutsOneBlockOrNothingWrong)

/-- 'zzlaws_root_b1.FnCutTokenRoundTripQueryToken': WHATEVER THE INPUT: true; the input reads as it did. -/
def fnCutTokenRoundTripQueryTokenSpec : ChangeSpec := { name := "fnCutTokenRoundTripQueryToken", fn := fun _ => fun
  | [d1, d2, d3, d4] => { results := [.lit (.bool true)], args := [d1, d2, d3, d4] }
  | _ => none }
def fnCutTokenRoundTripQueryTokenRow : OpenClaim := { program := "qxb6602100a", sum := "5c1a51d1a8a0490b4f7b6dc350910fc6bf4d11f26d63d10cfca5f6db665d923c", func := "example.com/gatemark/gatemark/zzlaws_root_b1.FnCutTokenRoundTripQueryToken", spec := "fnCutTokenRoundTripQueryToken", inPlace := ["internal/bytealg.IndexByteString", "internal/bytealg.IndexString"], named := ["internal/bytealg.MaxLen"], apart := false }
def FnCutTokenRoundTripQueryTokenSaid : Prop := fnCutTokenRoundTripQueryTokenRow.holds Try.pinned (OpenSpec.ofChange fnCutTokenRoundTripQueryTokenSpec)

/-- ITS FALSE NEIGHBOUR: 'it returns false'. Refute it at one input. -/
def fnCutTokenRoundTripQueryTokenWrong : ChangeSpec := { name := "fnCutTokenRoundTripQueryToken", fn := fun _ => fun
  | [d1, d2, d3, d4] => { results := [.lit (.bool false)], args := [d1, d2, d3, d4] }
  | _ => none }
def FnCutTokenRoundTripQueryTokenWrongFalsely : Prop := fnCutTokenRoundTripQueryTokenRow.holds Try.pinned (OpenSpec.ofChange fnCutTokenRoundTripQueryTokenWrong)

/-- 'zzlaws_root_b1.FnNormalizePercentLowerIgnoresInputCase': WHATEVER THE INPUT: true; the input reads as it did. -/
def fnNormalizePercentLowerIgnoresInputCaseSpec : ChangeSpec := { name := "fnNormalizePercentLowerIgnoresInputCase", fn := fun _ => fun
  | [d] => { results := [.lit (.bool true)], args := [d] }
  | _ => none }
def fnNormalizePercentLowerIgnoresInputCaseRow : OpenClaim := { program := "qxb6602100a", sum := "5c1a51d1a8a0490b4f7b6dc350910fc6bf4d11f26d63d10cfca5f6db665d923c", func := "example.com/gatemark/gatemark/zzlaws_root_b1.FnNormalizePercentLowerIgnoresInputCase", spec := "fnNormalizePercentLowerIgnoresInputCase", apart := false }
def FnNormalizePercentLowerIgnoresInputCaseSaid : Prop := fnNormalizePercentLowerIgnoresInputCaseRow.holds Try.pinned (OpenSpec.ofChange fnNormalizePercentLowerIgnoresInputCaseSpec)

/-- ITS FALSE NEIGHBOUR: 'it returns false'. Refute it at one input. -/
def fnNormalizePercentLowerIgnoresInputCaseWrong : ChangeSpec := { name := "fnNormalizePercentLowerIgnoresInputCase", fn := fun _ => fun
  | [d] => { results := [.lit (.bool false)], args := [d] }
  | _ => none }
def FnNormalizePercentLowerIgnoresInputCaseWrongFalsely : Prop := fnNormalizePercentLowerIgnoresInputCaseRow.holds Try.pinned (OpenSpec.ofChange fnNormalizePercentLowerIgnoresInputCaseWrong)

/-- 'zzlaws_root_b1.FnNormalizePercentModesDifferOnlyInCase': WHATEVER THE INPUT: true; the input reads as it did. -/
def fnNormalizePercentModesDifferOnlyInCaseSpec : ChangeSpec := { name := "fnNormalizePercentModesDifferOnlyInCase", fn := fun _ => fun
  | [d] => { results := [.lit (.bool true)], args := [d] }
  | _ => none }
def fnNormalizePercentModesDifferOnlyInCaseRow : OpenClaim := { program := "qxb6602100a", sum := "5c1a51d1a8a0490b4f7b6dc350910fc6bf4d11f26d63d10cfca5f6db665d923c", func := "example.com/gatemark/gatemark/zzlaws_root_b1.FnNormalizePercentModesDifferOnlyInCase", spec := "fnNormalizePercentModesDifferOnlyInCase", apart := false }
def FnNormalizePercentModesDifferOnlyInCaseSaid : Prop := fnNormalizePercentModesDifferOnlyInCaseRow.holds Try.pinned (OpenSpec.ofChange fnNormalizePercentModesDifferOnlyInCaseSpec)

/-- ITS FALSE NEIGHBOUR: 'it returns false'. Refute it at one input. -/
def fnNormalizePercentModesDifferOnlyInCaseWrong : ChangeSpec := { name := "fnNormalizePercentModesDifferOnlyInCase", fn := fun _ => fun
  | [d] => { results := [.lit (.bool false)], args := [d] }
  | _ => none }
def FnNormalizePercentModesDifferOnlyInCaseWrongFalsely : Prop := fnNormalizePercentModesDifferOnlyInCaseRow.holds Try.pinned (OpenSpec.ofChange fnNormalizePercentModesDifferOnlyInCaseWrong)

end Rows
end Go.Proofs.Qxb6602100a
