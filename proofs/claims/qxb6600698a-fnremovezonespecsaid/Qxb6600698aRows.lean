/-
  No cell of these rows narrows 'for every input' (looked for: loops, veiled, ifaces, maps, wideKeys, modest, calm, conditions, laid).
  DERIVED. THE GIVEN ROWS OF THIS SEAT. 3 by the template 'for every input the law returns true; each argument reads behind the call as it read before'; 0 by the template 'total and deterministic' (their statements: Qxb6600698aTotals.lean).
  GIVEN WITH THE SEED: the statements are not yours to turn. If you find one false, say at which input.
  Laid BY PROGRAM, IN A SANDBOX (cutbox-rows.mjs): the forced cells as the released guide's own fill.sh prints them over the translation ea35d62ee7efd901… (all of the seat's roots in one cut). By AI agents, Wed Nov 11 2026. No macro, syntax, notation, axiom, sorry.
-/
import Derived.Test.Qxb6600698aChecked
import GoSem.Claim
import GoSem.ClaimJoined
import GoSem.ClaimMapViews
import Derived.JoinedTies
import Derived.KernelRfl
namespace Go.Proofs.Qxb6600698a
/- THE CELL 'sum', in the pinned program and in every row, IS THE sha256 OF THE DUMP (.gsa) THAT Qxb6600698aProg.lean LOADS. Nothing in Lean hashes anything: it is a label: what it is worth is what the hold of that sum in a sandbox is worth. -/
noncomputable def Try.pinned : Pinned := { name := "qxb6600698a", sum := "ea35d62ee7efd9018de28bab23e9f95ff915832c337c9263bc759f7d213ee31a", checked := Try.checked }
namespace Rows
def none {H : Type} : Left H := { results := [], args := [] }

/-- 'zzlaws_pkg_upstream_b1.FnRemoveZoneSpec': WHATEVER THE INPUT: true; the input reads as it did. -/
def fnRemoveZoneSpecSpec : ChangeSpec := { name := "fnRemoveZoneSpec", fn := fun _ => fun
  | [d] => { results := [.lit (.bool true)], args := [d] }
  | _ => none }
def fnRemoveZoneSpecRow : OpenClaim := { program := "qxb6600698a", sum := "ea35d62ee7efd9018de28bab23e9f95ff915832c337c9263bc759f7d213ee31a", func := "example.com/ostia/ostia/zzlaws_pkg_upstream_b1.FnRemoveZoneSpec", spec := "fnRemoveZoneSpec", apart := false }
def FnRemoveZoneSpecSaid : Prop := fnRemoveZoneSpecRow.holds Try.pinned (OpenSpec.ofChange fnRemoveZoneSpecSpec)

/-- ITS FALSE NEIGHBOUR: 'it returns false'. Refute it at one input. -/
def fnRemoveZoneSpecWrong : ChangeSpec := { name := "fnRemoveZoneSpec", fn := fun _ => fun
  | [d] => { results := [.lit (.bool false)], args := [d] }
  | _ => none }
def FnRemoveZoneSpecWrongFalsely : Prop := fnRemoveZoneSpecRow.holds Try.pinned (OpenSpec.ofChange fnRemoveZoneSpecWrong)

/-- 'zzlaws_pkg_upstream_b1.FnRemoveZoneIPv6Literal': WHATEVER THE INPUT: true; the input reads as it did. -/
def fnRemoveZoneIPv6LiteralSpec : ChangeSpec := { name := "fnRemoveZoneIPv6Literal", fn := fun _ => fun
  | [d1, d2, d3] => { results := [.lit (.bool true)], args := [d1, d2, d3] }
  | _ => none }
def fnRemoveZoneIPv6LiteralRow : OpenClaim := { program := "qxb6600698a", sum := "ea35d62ee7efd9018de28bab23e9f95ff915832c337c9263bc759f7d213ee31a", func := "example.com/ostia/ostia/zzlaws_pkg_upstream_b1.FnRemoveZoneIPv6Literal", spec := "fnRemoveZoneIPv6Literal", apart := false }
def FnRemoveZoneIPv6LiteralSaid : Prop := fnRemoveZoneIPv6LiteralRow.holds Try.pinned (OpenSpec.ofChange fnRemoveZoneIPv6LiteralSpec)

/-- ITS FALSE NEIGHBOUR: 'it returns false'. Refute it at one input. -/
def fnRemoveZoneIPv6LiteralWrong : ChangeSpec := { name := "fnRemoveZoneIPv6Literal", fn := fun _ => fun
  | [d1, d2, d3] => { results := [.lit (.bool false)], args := [d1, d2, d3] }
  | _ => none }
def FnRemoveZoneIPv6LiteralWrongFalsely : Prop := fnRemoveZoneIPv6LiteralRow.holds Try.pinned (OpenSpec.ofChange fnRemoveZoneIPv6LiteralWrong)

/-- 'zzlaws_pkg_upstream_b1.FnRemoveZoneLeavesOthers': WHATEVER THE INPUT: true; the input reads as it did. -/
def fnRemoveZoneLeavesOthersSpec : ChangeSpec := { name := "fnRemoveZoneLeavesOthers", fn := fun _ => fun
  | [d] => { results := [.lit (.bool true)], args := [d] }
  | _ => none }
def fnRemoveZoneLeavesOthersRow : OpenClaim := { program := "qxb6600698a", sum := "ea35d62ee7efd9018de28bab23e9f95ff915832c337c9263bc759f7d213ee31a", func := "example.com/ostia/ostia/zzlaws_pkg_upstream_b1.FnRemoveZoneLeavesOthers", spec := "fnRemoveZoneLeavesOthers", apart := false }
def FnRemoveZoneLeavesOthersSaid : Prop := fnRemoveZoneLeavesOthersRow.holds Try.pinned (OpenSpec.ofChange fnRemoveZoneLeavesOthersSpec)

/-- ITS FALSE NEIGHBOUR: 'it returns false'. Refute it at one input. -/
def fnRemoveZoneLeavesOthersWrong : ChangeSpec := { name := "fnRemoveZoneLeavesOthers", fn := fun _ => fun
  | [d] => { results := [.lit (.bool false)], args := [d] }
  | _ => none }
def FnRemoveZoneLeavesOthersWrongFalsely : Prop := fnRemoveZoneLeavesOthersRow.holds Try.pinned (OpenSpec.ofChange fnRemoveZoneLeavesOthersWrong)

end Rows
end Go.Proofs.Qxb6600698a
