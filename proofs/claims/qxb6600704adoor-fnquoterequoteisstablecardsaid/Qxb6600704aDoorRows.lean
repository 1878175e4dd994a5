/-
  NARROWER THAN 'FOR EVERY INPUT', by the rows' own cells (each row's printed sentence says how): FnQuoteMatchesWhitespaceModel: laid · FnQuoteRequoteIsStable: laid · FnRelaxedHeaderMatchesModel: laid · FnRelaxedHeaderIdempotent: laid · FnAuthResultsUnfoldsToSpec: laid · FnAuthResultsLinesStayWithin78: laid.
  DERIVED. THE GIVEN ROWS OF THIS SEAT. 6 by the template 'for every input the law returns true; each argument reads behind the call as it read before'; 0 by the template 'total and deterministic' (their statements: Qxb6600704aDoorTotals.lean).
  GIVEN WITH THE SEED: the statements are not yours to turn. If you find one false, say at which input.
  Laid BY PROGRAM, IN A SANDBOX (cutbox-rows.mjs): the forced cells as the released guide's own fill.sh prints them over the translation 0484b1bf652fa7b3… (all of the seat's roots in one cut). By AI agents, Wed Nov 11 2026. No macro, syntax, notation, axiom, sorry.
-/
import Derived.Test.Qxb6600704aDoorChecked
import GoSem.PinnedTables
import GoSem.Claim
import GoSem.ClaimJoined
import GoSem.ClaimMapViews
import Derived.JoinedTies
import Derived.KernelRfl
namespace Go.Proofs.Qxb6600704aDoor
/- THE CELL 'sum', in the pinned program and in every row, IS THE sha256 OF THE DUMP (.gsa) THAT Qxb6600704aDoorProg.lean LOADS. Nothing in Lean hashes anything: it is a label: what it is worth is what the hold of that sum in a sandbox is worth. -/
noncomputable def Tryd.pinned : Pinned := { name := "qxb6600704adoor", sum := "0484b1bf652fa7b3a9de210657ad7a3bca7683c950fbe034b269862f6e4e969c", checked := Tryd.checked }
namespace Rows
def none {H : Type} : Left H := { results := [], args := [] }

/- WHAT THE LISTED PACKAGE-LEVEL VARIABLES READ AS WHEN THE CALL BEGINS. Each datum BY PROGRAM (the guide's laid-datum.mjs) off the statement by which the dump's own 'gosem.cut.vars' lays the variable. In a bare row this is a premise. The card (Qxb6600704aDoorCards.lean) ties it to the program's text. -/
def laid_unicode_White_Space {H : Type} : DataW H := .ptr (.agg [.slice [.agg [.lit (.int .u16 9), .lit (.int .u16 13), .lit (.int .u16 1)], .agg [.lit (.int .u16 32), .lit (.int .u16 133), .lit (.int .u16 101)], .agg [.lit (.int .u16 160), .lit (.int .u16 5760), .lit (.int .u16 5600)], .agg [.lit (.int .u16 8192), .lit (.int .u16 8202), .lit (.int .u16 1)], .agg [.lit (.int .u16 8232), .lit (.int .u16 8233), .lit (.int .u16 1)], .agg [.lit (.int .u16 8239), .lit (.int .u16 8287), .lit (.int .u16 48)], .agg [.lit (.int .u16 12288), .lit (.int .u16 12288), .lit (.int .u16 1)]] [], .nil, .lit (.int .i64 2)])
def laid_strings_asciiSpace {H : Type} : DataW H := .agg [.lit (.int .u8 0), .lit (.int .u8 0), .lit (.int .u8 0), .lit (.int .u8 0), .lit (.int .u8 0), .lit (.int .u8 0), .lit (.int .u8 0), .lit (.int .u8 0), .lit (.int .u8 0), .lit (.int .u8 1), .lit (.int .u8 1), .lit (.int .u8 1), .lit (.int .u8 1), .lit (.int .u8 1), .lit (.int .u8 0), .lit (.int .u8 0), .lit (.int .u8 0), .lit (.int .u8 0), .lit (.int .u8 0), .lit (.int .u8 0), .lit (.int .u8 0), .lit (.int .u8 0), .lit (.int .u8 0), .lit (.int .u8 0), .lit (.int .u8 0), .lit (.int .u8 0), .lit (.int .u8 0), .lit (.int .u8 0), .lit (.int .u8 0), .lit (.int .u8 0), .lit (.int .u8 0), .lit (.int .u8 0), .lit (.int .u8 1), .lit (.int .u8 0), .lit (.int .u8 0), .lit (.int .u8 0), .lit (.int .u8 0), .lit (.int .u8 0), .lit (.int .u8 0), .lit (.int .u8 0), .lit (.int .u8 0), .lit (.int .u8 0), .lit (.int .u8 0), .lit (.int .u8 0), .lit (.int .u8 0), .lit (.int .u8 0), .lit (.int .u8 0), .lit (.int .u8 0), .lit (.int .u8 0), .lit (.int .u8 0), .lit (.int .u8 0), .lit (.int .u8 0), .lit (.int .u8 0), .lit (.int .u8 0), .lit (.int .u8 0), .lit (.int .u8 0), .lit (.int .u8 0), .lit (.int .u8 0), .lit (.int .u8 0), .lit (.int .u8 0), .lit (.int .u8 0), .lit (.int .u8 0), .lit (.int .u8 0), .lit (.int .u8 0), .lit (.int .u8 0), .lit (.int .u8 0), .lit (.int .u8 0), .lit (.int .u8 0), .lit (.int .u8 0), .lit (.int .u8 0), .lit (.int .u8 0), .lit (.int .u8 0), .lit (.int .u8 0), .lit (.int .u8 0), .lit (.int .u8 0), .lit (.int .u8 0), .lit (.int .u8 0), .lit (.int .u8 0), .lit (.int .u8 0), .lit (.int .u8 0), .lit (.int .u8 0), .lit (.int .u8 0), .lit (.int .u8 0), .lit (.int .u8 0), .lit (.int .u8 0), .lit (.int .u8 0), .lit (.int .u8 0), .lit (.int .u8 0), .lit (.int .u8 0), .lit (.int .u8 0), .lit (.int .u8 0), .lit (.int .u8 0), .lit (.int .u8 0), .lit (.int .u8 0), .lit (.int .u8 0), .lit (.int .u8 0), .lit (.int .u8 0), .lit (.int .u8 0), .lit (.int .u8 0), .lit (.int .u8 0), .lit (.int .u8 0), .lit (.int .u8 0), .lit (.int .u8 0), .lit (.int .u8 0), .lit (.int .u8 0), .lit (.int .u8 0), .lit (.int .u8 0), .lit (.int .u8 0), .lit (.int .u8 0), .lit (.int .u8 0), .lit (.int .u8 0), .lit (.int .u8 0), .lit (.int .u8 0), .lit (.int .u8 0), .lit (.int .u8 0), .lit (.int .u8 0), .lit (.int .u8 0), .lit (.int .u8 0), .lit (.int .u8 0), .lit (.int .u8 0), .lit (.int .u8 0), .lit (.int .u8 0), .lit (.int .u8 0), .lit (.int .u8 0), .lit (.int .u8 0), .lit (.int .u8 0), .lit (.int .u8 0), .lit (.int .u8 0), .lit (.int .u8 0), .lit (.int .u8 0), .lit (.int .u8 0), .lit (.int .u8 0), .lit (.int .u8 0), .lit (.int .u8 0), .lit (.int .u8 0), .lit (.int .u8 0), .lit (.int .u8 0), .lit (.int .u8 0), .lit (.int .u8 0), .lit (.int .u8 0), .lit (.int .u8 0), .lit (.int .u8 0), .lit (.int .u8 0), .lit (.int .u8 0), .lit (.int .u8 0), .lit (.int .u8 0), .lit (.int .u8 0), .lit (.int .u8 0), .lit (.int .u8 0), .lit (.int .u8 0), .lit (.int .u8 0), .lit (.int .u8 0), .lit (.int .u8 0), .lit (.int .u8 0), .lit (.int .u8 0), .lit (.int .u8 0), .lit (.int .u8 0), .lit (.int .u8 0), .lit (.int .u8 0), .lit (.int .u8 0), .lit (.int .u8 0), .lit (.int .u8 0), .lit (.int .u8 0), .lit (.int .u8 0), .lit (.int .u8 0), .lit (.int .u8 0), .lit (.int .u8 0), .lit (.int .u8 0), .lit (.int .u8 0), .lit (.int .u8 0), .lit (.int .u8 0), .lit (.int .u8 0), .lit (.int .u8 0), .lit (.int .u8 0), .lit (.int .u8 0), .lit (.int .u8 0), .lit (.int .u8 0), .lit (.int .u8 0), .lit (.int .u8 0), .lit (.int .u8 0), .lit (.int .u8 0), .lit (.int .u8 0), .lit (.int .u8 0), .lit (.int .u8 0), .lit (.int .u8 0), .lit (.int .u8 0), .lit (.int .u8 0), .lit (.int .u8 0), .lit (.int .u8 0), .lit (.int .u8 0), .lit (.int .u8 0), .lit (.int .u8 0), .lit (.int .u8 0), .lit (.int .u8 0), .lit (.int .u8 0), .lit (.int .u8 0), .lit (.int .u8 0), .lit (.int .u8 0), .lit (.int .u8 0), .lit (.int .u8 0), .lit (.int .u8 0), .lit (.int .u8 0), .lit (.int .u8 0), .lit (.int .u8 0), .lit (.int .u8 0), .lit (.int .u8 0), .lit (.int .u8 0), .lit (.int .u8 0), .lit (.int .u8 0), .lit (.int .u8 0), .lit (.int .u8 0), .lit (.int .u8 0), .lit (.int .u8 0), .lit (.int .u8 0), .lit (.int .u8 0), .lit (.int .u8 0), .lit (.int .u8 0), .lit (.int .u8 0), .lit (.int .u8 0), .lit (.int .u8 0), .lit (.int .u8 0), .lit (.int .u8 0), .lit (.int .u8 0), .lit (.int .u8 0), .lit (.int .u8 0), .lit (.int .u8 0), .lit (.int .u8 0), .lit (.int .u8 0), .lit (.int .u8 0), .lit (.int .u8 0), .lit (.int .u8 0), .lit (.int .u8 0), .lit (.int .u8 0), .lit (.int .u8 0), .lit (.int .u8 0), .lit (.int .u8 0), .lit (.int .u8 0), .lit (.int .u8 0), .lit (.int .u8 0), .lit (.int .u8 0), .lit (.int .u8 0), .lit (.int .u8 0), .lit (.int .u8 0), .lit (.int .u8 0), .lit (.int .u8 0), .lit (.int .u8 0), .lit (.int .u8 0), .lit (.int .u8 0), .lit (.int .u8 0), .lit (.int .u8 0), .lit (.int .u8 0), .lit (.int .u8 0), .lit (.int .u8 0), .lit (.int .u8 0), .lit (.int .u8 0), .lit (.int .u8 0)]
def laid_unicode_utf8_acceptRanges {H : Type} : DataW H := .agg [.agg [.lit (.int .u8 128), .lit (.int .u8 191)], .agg [.lit (.int .u8 160), .lit (.int .u8 191)], .agg [.lit (.int .u8 128), .lit (.int .u8 159)], .agg [.lit (.int .u8 144), .lit (.int .u8 191)], .agg [.lit (.int .u8 128), .lit (.int .u8 143)], .agg [.lit (.int .u8 0), .lit (.int .u8 0)], .agg [.lit (.int .u8 0), .lit (.int .u8 0)], .agg [.lit (.int .u8 0), .lit (.int .u8 0)], .agg [.lit (.int .u8 0), .lit (.int .u8 0)], .agg [.lit (.int .u8 0), .lit (.int .u8 0)], .agg [.lit (.int .u8 0), .lit (.int .u8 0)], .agg [.lit (.int .u8 0), .lit (.int .u8 0)], .agg [.lit (.int .u8 0), .lit (.int .u8 0)], .agg [.lit (.int .u8 0), .lit (.int .u8 0)], .agg [.lit (.int .u8 0), .lit (.int .u8 0)], .agg [.lit (.int .u8 0), .lit (.int .u8 0)]]
/-- One of Go's own tables, pinned by name: the form's constant. -/
def laid_unicode_utf8_first : DataW Unit := Go.Pinned.utf8First

/-- 'zzlaws_root_b1.FnQuoteMatchesWhitespaceModel': WHATEVER THE INPUT: true; the input reads as it did. -/
def fnQuoteMatchesWhitespaceModelSpec : ChangeSpec := { name := "fnQuoteMatchesWhitespaceModel", fn := fun _ => fun
  | [d] => { results := [.lit (.bool true)], args := [d] }
  | _ => none }
def fnQuoteMatchesWhitespaceModelRow : OpenClaim := { program := "qxb6600704adoor", sum := "0484b1bf652fa7b3a9de210657ad7a3bca7683c950fbe034b269862f6e4e969c", func := "example.com/sealwax/sealwax/zzlaws_root_b1.FnQuoteMatchesWhitespaceModel", spec := "fnQuoteMatchesWhitespaceModel", inPlace := ["internal/abi.NoEscape"], unfollowed := true, recurses := true, named := ["strings.asciiSpace", "unicode.White_Space"], apart := false, laid := [("unicode.White_Space", laid_unicode_White_Space), ("strings.asciiSpace", laid_strings_asciiSpace)] }
def FnQuoteMatchesWhitespaceModelSaid : Prop := fnQuoteMatchesWhitespaceModelRow.holds Tryd.pinned (OpenSpec.ofChange fnQuoteMatchesWhitespaceModelSpec)

/-- ITS FALSE NEIGHBOUR: 'it returns false'. Refute it at one input. -/
def fnQuoteMatchesWhitespaceModelWrong : ChangeSpec := { name := "fnQuoteMatchesWhitespaceModel", fn := fun _ => fun
  | [d] => { results := [.lit (.bool false)], args := [d] }
  | _ => none }
def FnQuoteMatchesWhitespaceModelWrongFalsely : Prop := fnQuoteMatchesWhitespaceModelRow.holds Tryd.pinned (OpenSpec.ofChange fnQuoteMatchesWhitespaceModelWrong)

/-- 'zzlaws_root_b1.FnQuoteRequoteIsStable': WHATEVER THE INPUT: true; the input reads as it did. -/
def fnQuoteRequoteIsStableSpec : ChangeSpec := { name := "fnQuoteRequoteIsStable", fn := fun _ => fun
  | [d] => { results := [.lit (.bool true)], args := [d] }
  | _ => none }
def fnQuoteRequoteIsStableRow : OpenClaim := { program := "qxb6600704adoor", sum := "0484b1bf652fa7b3a9de210657ad7a3bca7683c950fbe034b269862f6e4e969c", func := "example.com/sealwax/sealwax/zzlaws_root_b1.FnQuoteRequoteIsStable", spec := "fnQuoteRequoteIsStable", inPlace := ["internal/abi.NoEscape"], unfollowed := true, recurses := true, named := ["strings.asciiSpace", "unicode.White_Space"], apart := false, laid := [("unicode.White_Space", laid_unicode_White_Space), ("strings.asciiSpace", laid_strings_asciiSpace)] }
def FnQuoteRequoteIsStableSaid : Prop := fnQuoteRequoteIsStableRow.holds Tryd.pinned (OpenSpec.ofChange fnQuoteRequoteIsStableSpec)

/-- ITS FALSE NEIGHBOUR: 'it returns false'. Refute it at one input. -/
def fnQuoteRequoteIsStableWrong : ChangeSpec := { name := "fnQuoteRequoteIsStable", fn := fun _ => fun
  | [d] => { results := [.lit (.bool false)], args := [d] }
  | _ => none }
def FnQuoteRequoteIsStableWrongFalsely : Prop := fnQuoteRequoteIsStableRow.holds Tryd.pinned (OpenSpec.ofChange fnQuoteRequoteIsStableWrong)

/-- 'zzlaws_root_b1.FnRelaxedHeaderMatchesModel': WHATEVER THE INPUT: true; the input reads as it did. -/
def fnRelaxedHeaderMatchesModelSpec : ChangeSpec := { name := "fnRelaxedHeaderMatchesModel", fn := fun _ => fun
  | [d1, d2] => { results := [.lit (.bool true)], args := [d1, d2] }
  | _ => none }
def fnRelaxedHeaderMatchesModelRow : OpenClaim := { program := "qxb6600704adoor", sum := "0484b1bf652fa7b3a9de210657ad7a3bca7683c950fbe034b269862f6e4e969c", func := "example.com/sealwax/sealwax/zzlaws_root_b1.FnRelaxedHeaderMatchesModel", spec := "fnRelaxedHeaderMatchesModel", inPlace := ["internal/bytealg.IndexByte", "internal/bytealg.Index"], named := ["internal/bytealg.MaxLen", "unicode/utf8.first", "unicode/utf8.acceptRanges"], apart := false, laid := [("unicode/utf8.acceptRanges", laid_unicode_utf8_acceptRanges), ("unicode/utf8.first", laid_unicode_utf8_first)] }
def FnRelaxedHeaderMatchesModelSaid : Prop := fnRelaxedHeaderMatchesModelRow.holds Tryd.pinned (OpenSpec.ofChange fnRelaxedHeaderMatchesModelSpec)

/-- ITS FALSE NEIGHBOUR: 'it returns false'. Refute it at one input. -/
def fnRelaxedHeaderMatchesModelWrong : ChangeSpec := { name := "fnRelaxedHeaderMatchesModel", fn := fun _ => fun
  | [d1, d2] => { results := [.lit (.bool false)], args := [d1, d2] }
  | _ => none }
def FnRelaxedHeaderMatchesModelWrongFalsely : Prop := fnRelaxedHeaderMatchesModelRow.holds Tryd.pinned (OpenSpec.ofChange fnRelaxedHeaderMatchesModelWrong)

/-- 'zzlaws_root_b1.FnRelaxedHeaderIdempotent': WHATEVER THE INPUT: true; the input reads as it did. -/
def fnRelaxedHeaderIdempotentSpec : ChangeSpec := { name := "fnRelaxedHeaderIdempotent", fn := fun _ => fun
  | [d] => { results := [.lit (.bool true)], args := [d] }
  | _ => none }
def fnRelaxedHeaderIdempotentRow : OpenClaim := { program := "qxb6600704adoor", sum := "0484b1bf652fa7b3a9de210657ad7a3bca7683c950fbe034b269862f6e4e969c", func := "example.com/sealwax/sealwax/zzlaws_root_b1.FnRelaxedHeaderIdempotent", spec := "fnRelaxedHeaderIdempotent", inPlace := ["internal/bytealg.IndexByte", "internal/bytealg.Index"], named := ["internal/bytealg.MaxLen", "unicode/utf8.first", "unicode/utf8.acceptRanges"], apart := false, laid := [("unicode/utf8.acceptRanges", laid_unicode_utf8_acceptRanges), ("unicode/utf8.first", laid_unicode_utf8_first)] }
def FnRelaxedHeaderIdempotentSaid : Prop := fnRelaxedHeaderIdempotentRow.holds Tryd.pinned (OpenSpec.ofChange fnRelaxedHeaderIdempotentSpec)

/-- ITS FALSE NEIGHBOUR: 'it returns false'. Refute it at one input. -/
def fnRelaxedHeaderIdempotentWrong : ChangeSpec := { name := "fnRelaxedHeaderIdempotent", fn := fun _ => fun
  | [d] => { results := [.lit (.bool false)], args := [d] }
  | _ => none }
def FnRelaxedHeaderIdempotentWrongFalsely : Prop := fnRelaxedHeaderIdempotentRow.holds Tryd.pinned (OpenSpec.ofChange fnRelaxedHeaderIdempotentWrong)

/-- 'zzlaws_root_b1.FnAuthResultsUnfoldsToSpec': WHATEVER THE INPUT: true; the input reads as it did. -/
def fnAuthResultsUnfoldsToSpecSpec : ChangeSpec := { name := "fnAuthResultsUnfoldsToSpec", fn := fun _ => fun
  | [d1, d2] => { results := [.lit (.bool true)], args := [d1, d2] }
  | _ => none }
def fnAuthResultsUnfoldsToSpecRow : OpenClaim := { program := "qxb6600704adoor", sum := "0484b1bf652fa7b3a9de210657ad7a3bca7683c950fbe034b269862f6e4e969c", func := "example.com/sealwax/sealwax/zzlaws_root_b1.FnAuthResultsUnfoldsToSpec", spec := "fnAuthResultsUnfoldsToSpec", inPlace := ["internal/bytealg.IndexByteString", "internal/abi.NoEscape", "internal/bytealg.IndexString"], unfollowed := true, recurses := true, named := ["strings.asciiSpace", "unicode.White_Space", "unicode/utf8.first", "unicode/utf8.acceptRanges", "internal/bytealg.MaxLen"], apart := false, laid := [("unicode/utf8.acceptRanges", laid_unicode_utf8_acceptRanges), ("unicode.White_Space", laid_unicode_White_Space), ("strings.asciiSpace", laid_strings_asciiSpace), ("unicode/utf8.first", laid_unicode_utf8_first)] }
def FnAuthResultsUnfoldsToSpecSaid : Prop := fnAuthResultsUnfoldsToSpecRow.holds Tryd.pinned (OpenSpec.ofChange fnAuthResultsUnfoldsToSpecSpec)

/-- ITS FALSE NEIGHBOUR: 'it returns false'. Refute it at one input. -/
def fnAuthResultsUnfoldsToSpecWrong : ChangeSpec := { name := "fnAuthResultsUnfoldsToSpec", fn := fun _ => fun
  | [d1, d2] => { results := [.lit (.bool false)], args := [d1, d2] }
  | _ => none }
def FnAuthResultsUnfoldsToSpecWrongFalsely : Prop := fnAuthResultsUnfoldsToSpecRow.holds Tryd.pinned (OpenSpec.ofChange fnAuthResultsUnfoldsToSpecWrong)

/-- 'zzlaws_root_b1.FnAuthResultsLinesStayWithin78': WHATEVER THE INPUT: true; the input reads as it did. -/
def fnAuthResultsLinesStayWithin78Spec : ChangeSpec := { name := "fnAuthResultsLinesStayWithin78", fn := fun _ => fun
  | [d1, d2] => { results := [.lit (.bool true)], args := [d1, d2] }
  | _ => none }
def fnAuthResultsLinesStayWithin78Row : OpenClaim := { program := "qxb6600704adoor", sum := "0484b1bf652fa7b3a9de210657ad7a3bca7683c950fbe034b269862f6e4e969c", func := "example.com/sealwax/sealwax/zzlaws_root_b1.FnAuthResultsLinesStayWithin78", spec := "fnAuthResultsLinesStayWithin78", inPlace := ["internal/bytealg.IndexByteString", "internal/abi.NoEscape", "internal/bytealg.IndexString"], unfollowed := true, recurses := true, named := ["strings.asciiSpace", "unicode.White_Space", "unicode/utf8.first", "unicode/utf8.acceptRanges", "internal/bytealg.MaxLen"], apart := false, laid := [("unicode/utf8.acceptRanges", laid_unicode_utf8_acceptRanges), ("unicode.White_Space", laid_unicode_White_Space), ("strings.asciiSpace", laid_strings_asciiSpace), ("unicode/utf8.first", laid_unicode_utf8_first)] }
def FnAuthResultsLinesStayWithin78Said : Prop := fnAuthResultsLinesStayWithin78Row.holds Tryd.pinned (OpenSpec.ofChange fnAuthResultsLinesStayWithin78Spec)

/-- ITS FALSE NEIGHBOUR: 'it returns false'. Refute it at one input. -/
def fnAuthResultsLinesStayWithin78Wrong : ChangeSpec := { name := "fnAuthResultsLinesStayWithin78", fn := fun _ => fun
  | [d1, d2] => { results := [.lit (.bool false)], args := [d1, d2] }
  | _ => none }
def FnAuthResultsLinesStayWithin78WrongFalsely : Prop := fnAuthResultsLinesStayWithin78Row.holds Tryd.pinned (OpenSpec.ofChange fnAuthResultsLinesStayWithin78Wrong)

end Rows
end Go.Proofs.Qxb6600704aDoor
