/-
  DERIVED. GIVEN WITH THE SEED: THE CARDS: each row of Qxb6600704aDoorRows.lean that lists a variable, with what it lists TIED to the program's text (the seventh form; the later family's looks); each row that meets fmt, with fmt's text TOLD by the authors' own Lean function (tested against real Go, not proved from fmt's source: count such statements apart). THE CARD IS WHAT COUNTS. Prove the row's statement (the work); the ties are given (Qxb6600704aDoorTie.lean); close each card by the builder's one call (the guide's Derived/Test/ToyasCard.lean, 'card_holds'). Laid BY PROGRAM, IN A SANDBOX (cutbox-door.mjs). By AI agents, Wed Nov 11 2026. No macro, syntax, notation, axiom, sorry.
-/
import Derived.Test.Qxb6600704aDoorRows
import GoSem.ClaimSeven
namespace Go.Proofs.Qxb6600704aDoor
namespace Rows

/-- THE TIED CARD OF 'zzlaws_root_b1.FnQuoteMatchesWhitespaceModel'. -/
def fnQuoteMatchesWhitespaceModelCard : Claim7 := { stood := { row := fnQuoteMatchesWhitespaceModelRow, standIns := [], harness := (true, "a6ba32d3e9bd4b62c058814b1a1c9af31c6f574b4977de6528d60d0682b7b9d1"), looks := false }, kinds := [], alts := [], laidByText := true, laidKinds := [.listed, .data], laidTests := true, laidLooks := .later }
def FnQuoteMatchesWhitespaceModelCardSaid : Prop := Claim7.holds Tryd.pinned (.plain (OpenSpec.ofChange fnQuoteMatchesWhitespaceModelSpec)) fnQuoteMatchesWhitespaceModelCard

/-- THE TIED CARD OF 'zzlaws_root_b1.FnQuoteRequoteIsStable'. -/
def fnQuoteRequoteIsStableCard : Claim7 := { stood := { row := fnQuoteRequoteIsStableRow, standIns := [], harness := (true, "a6ba32d3e9bd4b62c058814b1a1c9af31c6f574b4977de6528d60d0682b7b9d1"), looks := false }, kinds := [], alts := [], laidByText := true, laidKinds := [.listed, .data], laidTests := true, laidLooks := .later }
def FnQuoteRequoteIsStableCardSaid : Prop := Claim7.holds Tryd.pinned (.plain (OpenSpec.ofChange fnQuoteRequoteIsStableSpec)) fnQuoteRequoteIsStableCard

/-- THE TIED CARD OF 'zzlaws_root_b1.FnRelaxedHeaderMatchesModel'. -/
def fnRelaxedHeaderMatchesModelCard : Claim7 := { stood := { row := fnRelaxedHeaderMatchesModelRow, standIns := [], harness := (true, "a6ba32d3e9bd4b62c058814b1a1c9af31c6f574b4977de6528d60d0682b7b9d1"), looks := false }, kinds := [], alts := [], laidByText := true, laidKinds := [.data, .pinned], laidTests := true, laidLooks := .later }
def FnRelaxedHeaderMatchesModelCardSaid : Prop := Claim7.holds Tryd.pinned (.plain (OpenSpec.ofChange fnRelaxedHeaderMatchesModelSpec)) fnRelaxedHeaderMatchesModelCard

/-- THE TIED CARD OF 'zzlaws_root_b1.FnRelaxedHeaderIdempotent'. -/
def fnRelaxedHeaderIdempotentCard : Claim7 := { stood := { row := fnRelaxedHeaderIdempotentRow, standIns := [], harness := (true, "a6ba32d3e9bd4b62c058814b1a1c9af31c6f574b4977de6528d60d0682b7b9d1"), looks := false }, kinds := [], alts := [], laidByText := true, laidKinds := [.data, .pinned], laidTests := true, laidLooks := .later }
def FnRelaxedHeaderIdempotentCardSaid : Prop := Claim7.holds Tryd.pinned (.plain (OpenSpec.ofChange fnRelaxedHeaderIdempotentSpec)) fnRelaxedHeaderIdempotentCard

/-- THE TIED CARD OF 'zzlaws_root_b1.FnAuthResultsUnfoldsToSpec'. -/
def fnAuthResultsUnfoldsToSpecCard : Claim7 := { stood := { row := fnAuthResultsUnfoldsToSpecRow, standIns := [], harness := (true, "a6ba32d3e9bd4b62c058814b1a1c9af31c6f574b4977de6528d60d0682b7b9d1"), looks := false }, kinds := [], alts := [], laidByText := true, laidKinds := [.data, .listed, .data, .pinned], laidTests := true, laidLooks := .later }
def FnAuthResultsUnfoldsToSpecCardSaid : Prop := Claim7.holds Tryd.pinned (.plain (OpenSpec.ofChange fnAuthResultsUnfoldsToSpecSpec)) fnAuthResultsUnfoldsToSpecCard

/-- THE TIED CARD OF 'zzlaws_root_b1.FnAuthResultsLinesStayWithin78'. -/
def fnAuthResultsLinesStayWithin78Card : Claim7 := { stood := { row := fnAuthResultsLinesStayWithin78Row, standIns := [], harness := (true, "a6ba32d3e9bd4b62c058814b1a1c9af31c6f574b4977de6528d60d0682b7b9d1"), looks := false }, kinds := [], alts := [], laidByText := true, laidKinds := [.data, .listed, .data, .pinned], laidTests := true, laidLooks := .later }
def FnAuthResultsLinesStayWithin78CardSaid : Prop := Claim7.holds Tryd.pinned (.plain (OpenSpec.ofChange fnAuthResultsLinesStayWithin78Spec)) fnAuthResultsLinesStayWithin78Card
end Rows
end Go.Proofs.Qxb6600704aDoor
