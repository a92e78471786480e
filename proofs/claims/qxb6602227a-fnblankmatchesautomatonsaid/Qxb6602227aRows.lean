/-
  No cell of these rows narrows 'for every input' (looked for: loops, veiled, ifaces, maps, wideKeys, modest, calm, conditions, laid).
  DERIVED. THE GIVEN ROWS OF THIS SEAT. 5 by the template 'for every input the law returns true; each argument reads behind the call as it read before'; 0 by the template 'total and deterministic' (their statements: Qxb6602227aTotals.lean).
  GIVEN WITH THE SEED: the statements are not yours to turn. If you find one false, say at which input.
  Laid BY PROGRAM, IN A SANDBOX (cutbox-rows.mjs): the forced cells as the released guide's own fill.sh prints them over the translation 6fc745ed8e5d165b… (all of the seat's roots in one cut). By AI agents, Wed Nov 11 2026. No macro, syntax, notation, axiom, sorry.
-/
import Derived.Test.Qxb6602227aChecked
import GoSem.Claim
import GoSem.ClaimJoined
import GoSem.ClaimMapViews
import Derived.JoinedTies
import Derived.KernelRfl
namespace Go.Proofs.Qxb6602227a
/- THE CELL 'sum', in the pinned program and in every row, IS THE sha256 OF THE DUMP (.gsa) THAT Qxb6602227aProg.lean LOADS. Nothing in Lean hashes anything: it is a label: what it is worth is what the hold of that sum in a sandbox is worth. -/
noncomputable def Try.pinned : Pinned := { name := "qxb6602227a", sum := "6fc745ed8e5d165b727dca5eafee57631b4430ea745301f09e1129c969a376f2", checked := Try.checked }
namespace Rows
def none {H : Type} : Left H := { results := [], args := [] }

/-- 'zzlaws_cprobe_b1.FnBlankMatchesAutomaton': WHATEVER THE INPUT: true; the input reads as it did. -/
def fnBlankMatchesAutomatonSpec : ChangeSpec := { name := "fnBlankMatchesAutomaton", fn := fun _ => fun
  | [d] => { results := [.lit (.bool true)], args := [d] }
  | _ => none }
def fnBlankMatchesAutomatonRow : OpenClaim := { program := "qxb6602227a", sum := "6fc745ed8e5d165b727dca5eafee57631b4430ea745301f09e1129c969a376f2", func := "example.com/causeway/causeway/zzlaws_cprobe_b1.FnBlankMatchesAutomaton", spec := "fnBlankMatchesAutomaton", inPlace := ["internal/bytealg.IndexByteString", "internal/bytealg.IndexString"], named := ["internal/bytealg.MaxLen"], apart := false }
def FnBlankMatchesAutomatonSaid : Prop := fnBlankMatchesAutomatonRow.holds Try.pinned (OpenSpec.ofChange fnBlankMatchesAutomatonSpec)

/-- ITS FALSE NEIGHBOUR: 'it returns false'. Refute it at one input. -/
def fnBlankMatchesAutomatonWrong : ChangeSpec := { name := "fnBlankMatchesAutomaton", fn := fun _ => fun
  | [d] => { results := [.lit (.bool false)], args := [d] }
  | _ => none }
def FnBlankMatchesAutomatonWrongFalsely : Prop := fnBlankMatchesAutomatonRow.holds Try.pinned (OpenSpec.ofChange fnBlankMatchesAutomatonWrong)

/-- 'zzlaws_cprobe_b1.FnBlankAfterBlankTextAndBlankLine': WHATEVER THE INPUT: true; the input reads as it did. -/
def fnBlankAfterBlankTextAndBlankLineSpec : ChangeSpec := { name := "fnBlankAfterBlankTextAndBlankLine", fn := fun _ => fun
  | [d1, d2] => { results := [.lit (.bool true)], args := [d1, d2] }
  | _ => none }
def fnBlankAfterBlankTextAndBlankLineRow : OpenClaim := { program := "qxb6602227a", sum := "6fc745ed8e5d165b727dca5eafee57631b4430ea745301f09e1129c969a376f2", func := "example.com/causeway/causeway/zzlaws_cprobe_b1.FnBlankAfterBlankTextAndBlankLine", spec := "fnBlankAfterBlankTextAndBlankLine", inPlace := ["internal/bytealg.IndexByteString", "internal/bytealg.IndexString"], named := ["internal/bytealg.MaxLen"], apart := false }
def FnBlankAfterBlankTextAndBlankLineSaid : Prop := fnBlankAfterBlankTextAndBlankLineRow.holds Try.pinned (OpenSpec.ofChange fnBlankAfterBlankTextAndBlankLineSpec)

/-- ITS FALSE NEIGHBOUR: 'it returns false'. Refute it at one input. -/
def fnBlankAfterBlankTextAndBlankLineWrong : ChangeSpec := { name := "fnBlankAfterBlankTextAndBlankLine", fn := fun _ => fun
  | [d1, d2] => { results := [.lit (.bool false)], args := [d1, d2] }
  | _ => none }
def FnBlankAfterBlankTextAndBlankLineWrongFalsely : Prop := fnBlankAfterBlankTextAndBlankLineRow.holds Try.pinned (OpenSpec.ofChange fnBlankAfterBlankTextAndBlankLineWrong)

/-- 'zzlaws_cprobe_b1.FnBlankClosedBlockCommentIsSkipped': WHATEVER THE INPUT: true; the input reads as it did. -/
def fnBlankClosedBlockCommentIsSkippedSpec : ChangeSpec := { name := "fnBlankClosedBlockCommentIsSkipped", fn := fun _ => fun
  | [d1, d2] => { results := [.lit (.bool true)], args := [d1, d2] }
  | _ => none }
def fnBlankClosedBlockCommentIsSkippedRow : OpenClaim := { program := "qxb6602227a", sum := "6fc745ed8e5d165b727dca5eafee57631b4430ea745301f09e1129c969a376f2", func := "example.com/causeway/causeway/zzlaws_cprobe_b1.FnBlankClosedBlockCommentIsSkipped", spec := "fnBlankClosedBlockCommentIsSkipped", inPlace := ["internal/bytealg.IndexByteString", "internal/bytealg.IndexString"], named := ["internal/bytealg.MaxLen"], apart := false }
def FnBlankClosedBlockCommentIsSkippedSaid : Prop := fnBlankClosedBlockCommentIsSkippedRow.holds Try.pinned (OpenSpec.ofChange fnBlankClosedBlockCommentIsSkippedSpec)

/-- ITS FALSE NEIGHBOUR: 'it returns false'. Refute it at one input. -/
def fnBlankClosedBlockCommentIsSkippedWrong : ChangeSpec := { name := "fnBlankClosedBlockCommentIsSkipped", fn := fun _ => fun
  | [d1, d2] => { results := [.lit (.bool false)], args := [d1, d2] }
  | _ => none }
def FnBlankClosedBlockCommentIsSkippedWrongFalsely : Prop := fnBlankClosedBlockCommentIsSkippedRow.holds Try.pinned (OpenSpec.ofChange fnBlankClosedBlockCommentIsSkippedWrong)

/-- 'zzlaws_cprobe_b1.FnSpliceLinesMatchesForwardScan': WHATEVER THE INPUT: true; the input reads as it did. -/
def fnSpliceLinesMatchesForwardScanSpec : ChangeSpec := { name := "fnSpliceLinesMatchesForwardScan", fn := fun _ => fun
  | [d] => { results := [.lit (.bool true)], args := [d] }
  | _ => none }
def fnSpliceLinesMatchesForwardScanRow : OpenClaim := { program := "qxb6602227a", sum := "6fc745ed8e5d165b727dca5eafee57631b4430ea745301f09e1129c969a376f2", func := "example.com/causeway/causeway/zzlaws_cprobe_b1.FnSpliceLinesMatchesForwardScan", spec := "fnSpliceLinesMatchesForwardScan", inPlace := ["internal/bytealg.IndexByteString", "internal/abi.NoEscape", "internal/bytealg.MakeNoZero"], apart := false }
def FnSpliceLinesMatchesForwardScanSaid : Prop := fnSpliceLinesMatchesForwardScanRow.holds Try.pinned (OpenSpec.ofChange fnSpliceLinesMatchesForwardScanSpec)

/-- ITS FALSE NEIGHBOUR: 'it returns false'. Refute it at one input. -/
def fnSpliceLinesMatchesForwardScanWrong : ChangeSpec := { name := "fnSpliceLinesMatchesForwardScan", fn := fun _ => fun
  | [d] => { results := [.lit (.bool false)], args := [d] }
  | _ => none }
def FnSpliceLinesMatchesForwardScanWrongFalsely : Prop := fnSpliceLinesMatchesForwardScanRow.holds Try.pinned (OpenSpec.ofChange fnSpliceLinesMatchesForwardScanWrong)

/-- 'zzlaws_cprobe_b1.FnSpliceLinesSplitsAtLineEnds': WHATEVER THE INPUT: true; the input reads as it did. -/
def fnSpliceLinesSplitsAtLineEndsSpec : ChangeSpec := { name := "fnSpliceLinesSplitsAtLineEnds", fn := fun _ => fun
  | [d1, d2] => { results := [.lit (.bool true)], args := [d1, d2] }
  | _ => none }
def fnSpliceLinesSplitsAtLineEndsRow : OpenClaim := { program := "qxb6602227a", sum := "6fc745ed8e5d165b727dca5eafee57631b4430ea745301f09e1129c969a376f2", func := "example.com/causeway/causeway/zzlaws_cprobe_b1.FnSpliceLinesSplitsAtLineEnds", spec := "fnSpliceLinesSplitsAtLineEnds", inPlace := ["internal/bytealg.IndexByteString", "internal/abi.NoEscape", "internal/bytealg.MakeNoZero"], apart := false }
def FnSpliceLinesSplitsAtLineEndsSaid : Prop := fnSpliceLinesSplitsAtLineEndsRow.holds Try.pinned (OpenSpec.ofChange fnSpliceLinesSplitsAtLineEndsSpec)

/-- ITS FALSE NEIGHBOUR: 'it returns false'. Refute it at one input. -/
def fnSpliceLinesSplitsAtLineEndsWrong : ChangeSpec := { name := "fnSpliceLinesSplitsAtLineEnds", fn := fun _ => fun
  | [d1, d2] => { results := [.lit (.bool false)], args := [d1, d2] }
  | _ => none }
def FnSpliceLinesSplitsAtLineEndsWrongFalsely : Prop := fnSpliceLinesSplitsAtLineEndsRow.holds Try.pinned (OpenSpec.ofChange fnSpliceLinesSplitsAtLineEndsWrong)

end Rows
end Go.Proofs.Qxb6602227a
