/-
  No cell of these rows narrows 'for every input' (looked for: loops, veiled, ifaces, maps, wideKeys, modest, calm, conditions, laid).
  DERIVED. THE GIVEN ROWS OF THIS SEAT. 7 by the template 'for every input the law returns true; each argument reads behind the call as it read before'; 0 by the template 'total and deterministic' (their statements: Qxb6600828aTotals.lean).
  GIVEN WITH THE SEED: the statements are not yours to turn. If you find one false, say at which input.
  Laid BY PROGRAM, IN A SANDBOX (cutbox-rows.mjs): the forced cells as the released guide's own fill.sh prints them over the translation aa543d3da4e383f6… (all of the seat's roots in one cut). By AI agents, Wed Nov 11 2026. No macro, syntax, notation, axiom, sorry.
-/
import Derived.Test.Qxb6600828aChecked
import GoSem.Claim
import GoSem.ClaimJoined
import GoSem.ClaimMapViews
import Derived.JoinedTies
import Derived.KernelRfl
namespace Go.Proofs.Qxb6600828a
/- THE CELL 'sum', in the pinned program and in every row, IS THE sha256 OF THE DUMP (.gsa) THAT Qxb6600828aProg.lean LOADS. Nothing in Lean hashes anything: it is a label: what it is worth is what the hold of that sum in a sandbox is worth. -/
noncomputable def Try.pinned : Pinned := { name := "qxb6600828a", sum := "aa543d3da4e383f617ef56057b74b9bf85695dbd9f796fd048320a8f14260f7c", checked := Try.checked }
namespace Rows
def none {H : Type} : Left H := { results := [], args := [] }

/-- 'zzlaws_markdown_b1.FnScanDestinationTwoPassModel': WHATEVER THE INPUT: true; the input reads as it did. -/
def fnScanDestinationTwoPassModelSpec : ChangeSpec := { name := "fnScanDestinationTwoPassModel", fn := fun _ => fun
  | [d1, d2] => { results := [.lit (.bool true)], args := [d1, d2] }
  | _ => none }
def fnScanDestinationTwoPassModelRow : OpenClaim := { program := "qxb6600828a", sum := "aa543d3da4e383f617ef56057b74b9bf85695dbd9f796fd048320a8f14260f7c", func := "example.com/round-runner/round-runner/zzlaws_markdown_b1.FnScanDestinationTwoPassModel", spec := "fnScanDestinationTwoPassModel", apart := false }
def FnScanDestinationTwoPassModelSaid : Prop := fnScanDestinationTwoPassModelRow.holds Try.pinned (OpenSpec.ofChange fnScanDestinationTwoPassModelSpec)

/-- ITS FALSE NEIGHBOUR: 'it returns false'. Refute it at one input. -/
def fnScanDestinationTwoPassModelWrong : ChangeSpec := { name := "fnScanDestinationTwoPassModel", fn := fun _ => fun
  | [d1, d2] => { results := [.lit (.bool false)], args := [d1, d2] }
  | _ => none }
def FnScanDestinationTwoPassModelWrongFalsely : Prop := fnScanDestinationTwoPassModelRow.holds Try.pinned (OpenSpec.ofChange fnScanDestinationTwoPassModelWrong)

/-- 'zzlaws_markdown_b1.FnScanDestinationShiftAndCut': WHATEVER THE INPUT: true; the input reads as it did. -/
def fnScanDestinationShiftAndCutSpec : ChangeSpec := { name := "fnScanDestinationShiftAndCut", fn := fun _ => fun
  | [d1, d2, d3, d4] => { results := [.lit (.bool true)], args := [d1, d2, d3, d4] }
  | _ => none }
def fnScanDestinationShiftAndCutRow : OpenClaim := { program := "qxb6600828a", sum := "aa543d3da4e383f617ef56057b74b9bf85695dbd9f796fd048320a8f14260f7c", func := "example.com/round-runner/round-runner/zzlaws_markdown_b1.FnScanDestinationShiftAndCut", spec := "fnScanDestinationShiftAndCut", apart := false }
def FnScanDestinationShiftAndCutSaid : Prop := fnScanDestinationShiftAndCutRow.holds Try.pinned (OpenSpec.ofChange fnScanDestinationShiftAndCutSpec)

/-- ITS FALSE NEIGHBOUR: 'it returns false'. Refute it at one input. -/
def fnScanDestinationShiftAndCutWrong : ChangeSpec := { name := "fnScanDestinationShiftAndCut", fn := fun _ => fun
  | [d1, d2, d3, d4] => { results := [.lit (.bool false)], args := [d1, d2, d3, d4] }
  | _ => none }
def FnScanDestinationShiftAndCutWrongFalsely : Prop := fnScanDestinationShiftAndCutRow.holds Try.pinned (OpenSpec.ofChange fnScanDestinationShiftAndCutWrong)

/-- 'zzlaws_markdown_b1.FnEmailAutolinkSplitModel': WHATEVER THE INPUT: true; the input reads as it did. -/
def fnEmailAutolinkSplitModelSpec : ChangeSpec := { name := "fnEmailAutolinkSplitModel", fn := fun _ => fun
  | [d] => { results := [.lit (.bool true)], args := [d] }
  | _ => none }
def fnEmailAutolinkSplitModelRow : OpenClaim := { program := "qxb6600828a", sum := "aa543d3da4e383f617ef56057b74b9bf85695dbd9f796fd048320a8f14260f7c", func := "example.com/round-runner/round-runner/zzlaws_markdown_b1.FnEmailAutolinkSplitModel", spec := "fnEmailAutolinkSplitModel", inPlace := ["internal/bytealg.IndexByteString"], apart := false }
def FnEmailAutolinkSplitModelSaid : Prop := fnEmailAutolinkSplitModelRow.holds Try.pinned (OpenSpec.ofChange fnEmailAutolinkSplitModelSpec)

/-- ITS FALSE NEIGHBOUR: 'it returns false'. Refute it at one input. -/
def fnEmailAutolinkSplitModelWrong : ChangeSpec := { name := "fnEmailAutolinkSplitModel", fn := fun _ => fun
  | [d] => { results := [.lit (.bool false)], args := [d] }
  | _ => none }
def FnEmailAutolinkSplitModelWrongFalsely : Prop := fnEmailAutolinkSplitModelRow.holds Try.pinned (OpenSpec.ofChange fnEmailAutolinkSplitModelWrong)

/-- 'zzlaws_markdown_b1.FnEmailAutolinkReadsOnlyUpToItsBracket': WHATEVER THE INPUT: true; the input reads as it did. -/
def fnEmailAutolinkReadsOnlyUpToItsBracketSpec : ChangeSpec := { name := "fnEmailAutolinkReadsOnlyUpToItsBracket", fn := fun _ => fun
  | [d1, d2] => { results := [.lit (.bool true)], args := [d1, d2] }
  | _ => none }
def fnEmailAutolinkReadsOnlyUpToItsBracketRow : OpenClaim := { program := "qxb6600828a", sum := "aa543d3da4e383f617ef56057b74b9bf85695dbd9f796fd048320a8f14260f7c", func := "example.com/round-runner/round-runner/zzlaws_markdown_b1.FnEmailAutolinkReadsOnlyUpToItsBracket", spec := "fnEmailAutolinkReadsOnlyUpToItsBracket", inPlace := ["internal/bytealg.IndexByteString"], apart := false }
def FnEmailAutolinkReadsOnlyUpToItsBracketSaid : Prop := fnEmailAutolinkReadsOnlyUpToItsBracketRow.holds Try.pinned (OpenSpec.ofChange fnEmailAutolinkReadsOnlyUpToItsBracketSpec)

/-- ITS FALSE NEIGHBOUR: 'it returns false'. Refute it at one input. -/
def fnEmailAutolinkReadsOnlyUpToItsBracketWrong : ChangeSpec := { name := "fnEmailAutolinkReadsOnlyUpToItsBracket", fn := fun _ => fun
  | [d1, d2] => { results := [.lit (.bool false)], args := [d1, d2] }
  | _ => none }
def FnEmailAutolinkReadsOnlyUpToItsBracketWrongFalsely : Prop := fnEmailAutolinkReadsOnlyUpToItsBracketRow.holds Try.pinned (OpenSpec.ofChange fnEmailAutolinkReadsOnlyUpToItsBracketWrong)

/-- 'zzlaws_markdown_b1.FnEmailAutolinkCaseBlind': WHATEVER THE INPUT: true; the input reads as it did. -/
def fnEmailAutolinkCaseBlindSpec : ChangeSpec := { name := "fnEmailAutolinkCaseBlind", fn := fun _ => fun
  | [d] => { results := [.lit (.bool true)], args := [d] }
  | _ => none }
def fnEmailAutolinkCaseBlindRow : OpenClaim := { program := "qxb6600828a", sum := "aa543d3da4e383f617ef56057b74b9bf85695dbd9f796fd048320a8f14260f7c", func := "example.com/round-runner/round-runner/zzlaws_markdown_b1.FnEmailAutolinkCaseBlind", spec := "fnEmailAutolinkCaseBlind", inPlace := ["internal/bytealg.IndexByteString"], apart := false }
def FnEmailAutolinkCaseBlindSaid : Prop := fnEmailAutolinkCaseBlindRow.holds Try.pinned (OpenSpec.ofChange fnEmailAutolinkCaseBlindSpec)

/-- ITS FALSE NEIGHBOUR: 'it returns false'. Refute it at one input. -/
def fnEmailAutolinkCaseBlindWrong : ChangeSpec := { name := "fnEmailAutolinkCaseBlind", fn := fun _ => fun
  | [d] => { results := [.lit (.bool false)], args := [d] }
  | _ => none }
def FnEmailAutolinkCaseBlindWrongFalsely : Prop := fnEmailAutolinkCaseBlindRow.holds Try.pinned (OpenSpec.ofChange fnEmailAutolinkCaseBlindWrong)

/-- 'zzlaws_markdown_b1.FnBreakScanAtModel': WHATEVER THE INPUT: true; the input reads as it did. -/
def fnBreakScanAtModelSpec : ChangeSpec := { name := "fnBreakScanAtModel", fn := fun _ => fun
  | [d1, d2, d3] => { results := [.lit (.bool true)], args := [d1, d2, d3] }
  | _ => none }
def fnBreakScanAtModelRow : OpenClaim := { program := "qxb6600828a", sum := "aa543d3da4e383f617ef56057b74b9bf85695dbd9f796fd048320a8f14260f7c", func := "example.com/round-runner/round-runner/zzlaws_markdown_b1.FnBreakScanAtModel", spec := "fnBreakScanAtModel", inPlace := ["internal/bytealg.IndexByteString"], apart := false }
def FnBreakScanAtModelSaid : Prop := fnBreakScanAtModelRow.holds Try.pinned (OpenSpec.ofChange fnBreakScanAtModelSpec)

/-- ITS FALSE NEIGHBOUR: 'it returns false'. Refute it at one input. -/
def fnBreakScanAtModelWrong : ChangeSpec := { name := "fnBreakScanAtModel", fn := fun _ => fun
  | [d1, d2, d3] => { results := [.lit (.bool false)], args := [d1, d2, d3] }
  | _ => none }
def FnBreakScanAtModelWrongFalsely : Prop := fnBreakScanAtModelRow.holds Try.pinned (OpenSpec.ofChange fnBreakScanAtModelWrong)

/-- 'zzlaws_markdown_b1.FnBreakScanReusedAgreesWithFresh': WHATEVER THE INPUT: true; the input reads as it did. -/
def fnBreakScanReusedAgreesWithFreshSpec : ChangeSpec := { name := "fnBreakScanReusedAgreesWithFresh", fn := fun _ => fun
  | [d1, d2, d3, d4] => { results := [.lit (.bool true)], args := [d1, d2, d3, d4] }
  | _ => none }
def fnBreakScanReusedAgreesWithFreshRow : OpenClaim := { program := "qxb6600828a", sum := "aa543d3da4e383f617ef56057b74b9bf85695dbd9f796fd048320a8f14260f7c", func := "example.com/round-runner/round-runner/zzlaws_markdown_b1.FnBreakScanReusedAgreesWithFresh", spec := "fnBreakScanReusedAgreesWithFresh", inPlace := ["internal/bytealg.IndexByteString"], apart := false }
def FnBreakScanReusedAgreesWithFreshSaid : Prop := fnBreakScanReusedAgreesWithFreshRow.holds Try.pinned (OpenSpec.ofChange fnBreakScanReusedAgreesWithFreshSpec)

/-- ITS FALSE NEIGHBOUR: 'it returns false'. Refute it at one input. -/
def fnBreakScanReusedAgreesWithFreshWrong : ChangeSpec := { name := "fnBreakScanReusedAgreesWithFresh", fn := fun _ => fun
  | [d1, d2, d3, d4] => { results := [.lit (.bool false)], args := [d1, d2, d3, d4] }
  | _ => none }
def FnBreakScanReusedAgreesWithFreshWrongFalsely : Prop := fnBreakScanReusedAgreesWithFreshRow.holds Try.pinned (OpenSpec.ofChange fnBreakScanReusedAgreesWithFreshWrong)

end Rows
end Go.Proofs.Qxb6600828a
