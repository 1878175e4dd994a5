/-
  DERIVED: THE SHELF's CONTRACTS AT THIS DUMP, IN PLAIN WORDS (tools/lay-plain.mjs out of 'TrydShelf.lean', which tools/lay-shelf.mjs wrote): THE SAME DECLARATIONS UNDER THE SAME NAMES: 'import', 'namespace', 'open', 'def', 'theorem' AND NOTHING ELSE: no command of the shelf's: FOR A HAND-IN. Each laying: the table of numbers ('.._ren') and one theorem, a field a fact of the dump's own or the kernel's comparison; each contract: ONE APPLICATION.
-/
import Derived.Shelf.Strings.BuilderK
import Derived.Shelf.Strings.FieldsAny
import Derived.Lib.LaidU8
import Derived.Test.Qxb6600704aDoorProg
namespace Go.Proofs
open Go.Shelf
def Tryd.lays170_ren : Go.Shelf.Ren := ⟨fun | 170 => 43 | n => n, fun | 70 => 54 | 3 => 3 | 0 => 0 | 72 => 56 | 37 => 27 | 5 => 5 | n => n, fun | n => n⟩
theorem Tryd.lays170 : Go.Proofs.Lays.n170 Tryd.prog Tryd.lays170_ren := {
  mixed := by kernel_rfl
  f170 := Tryd.func43.trans (congrArg some (by kernel_rfl))
  t0 := Tryd.underlying0
  a0 := Tryd.isAgg0
  z0 := Tryd.sizeOf0
  v0 := Tryd.zeroValue0
  t3 := Tryd.underlying3
  a3 := Tryd.isAgg3
  z3 := Tryd.sizeOf3
  v3 := Tryd.zeroValue3
  t37 := Tryd.underlying27
  a37 := Tryd.isAgg27
  z37 := Tryd.sizeOf27
  v37 := Tryd.zeroValue27
  t70 := Tryd.underlying54
  a70 := Tryd.isAgg54
  z70 := Tryd.sizeOf54
  v70 := Tryd.zeroValue54
  t72 := Tryd.underlying56
  a72 := Tryd.isAgg56
  z72 := Tryd.sizeOf56
  v72 := Tryd.zeroValue56 }
def Tryd.lays169_ren : Go.Shelf.Ren := ⟨fun | 169 => 44 | n => n, fun | 70 => 54 | 9 => 9 | 0 => 0 | 72 => 56 | 37 => 27 | 127 => 74 | 3 => 3 | 5 => 5 | n => n, fun | n => n⟩
theorem Tryd.lays169 : Go.Proofs.Lays.n169 Tryd.prog Tryd.lays169_ren := {
  mixed := by kernel_rfl
  f169 := Tryd.func44.trans (congrArg some (by kernel_rfl))
  t0 := Tryd.underlying0
  a0 := Tryd.isAgg0
  z0 := Tryd.sizeOf0
  v0 := Tryd.zeroValue0
  t3 := Tryd.underlying3
  a3 := Tryd.isAgg3
  z3 := Tryd.sizeOf3
  v3 := Tryd.zeroValue3
  t9 := Tryd.underlying9
  a9 := Tryd.isAgg9
  z9 := Tryd.sizeOf9
  v9 := Tryd.zeroValue9
  t37 := Tryd.underlying27
  a37 := Tryd.isAgg27
  z37 := Tryd.sizeOf27
  v37 := Tryd.zeroValue27
  t70 := Tryd.underlying54
  a70 := Tryd.isAgg54
  z70 := Tryd.sizeOf54
  v70 := Tryd.zeroValue54
  t72 := Tryd.underlying56
  a72 := Tryd.isAgg56
  z72 := Tryd.sizeOf56
  v72 := Tryd.zeroValue56
  t127 := Tryd.underlying74
  a127 := Tryd.isAgg74
  z127 := Tryd.sizeOf74
  v127 := Tryd.zeroValue74 }
theorem Tryd.Builder_Extra_169 : Builder.Extra Tryd.prog Tryd.lays169_ren := {
  sizeBuilder := by kernel_rfl
  liesBuilder := by kernel_rfl
  t5 := Tryd.underlying5
  a5 := Tryd.isAgg5
  z5 := Tryd.sizeOf5
  v5 := Tryd.zeroValue5
  infoByte := by kernel_rfl
  cellsByte := by kernel_rfl
  sizeByte := by kernel_rfl
  neB5 := by decide }
open Go.RowKit in
/-- (*strings.Builder).Len: "Len returns the number of accumulated bytes; b.Len() == len(b.String()).": the world is as it was. (THE FORM '_f': 'Lib.IsBuilderF'.) (LAID: no walk: one application.) -/
theorem Tryd.Builder_Len_f (B b : Nat) (bs : List Value) (w : World) (h : Lib.IsBuilderF 56 5 B b bs w) :
    Calls Tryd.prog 43 #[.pointer (some ⟨b, 0, none⟩)] w fun e w' => e = .returned (.int .i64 bs.length) ∧ w' = w := Any.Builder_Len_f Tryd.lays170 B b bs w h
open Go.RowKit in
/-- (*strings.Builder).String: "String returns the accumulated string.": WHATEVER THE BUILDER HOLDS; THE FORM '_k': OVER 'Lib.IsBuilderF' (a builder that 'String()' may have read), AND WITH THE FRAME THAT REACHES ABOVE THE BUILDER: 'Lib.OthersKept': every block that is not b and is no row of uint8's stands as it stood: the iterator of a range among them. (LAID: no walk: one application.) -/
theorem Tryd.Builder_String_any_k (B b : Nat) (l : List UInt8) (w : World) (h : Lib.IsBuilderF 56 5 B b (Lib.byteCells l) w) (hBw : B ≤ w.heap.size) :
    Calls Tryd.prog 44 #[.pointer (some ⟨b, 0, none⟩)] w fun e w' => e = .returned (.string ⟨l.toArray⟩) ∧ (Lib.IsBuilderF 56 5 B b (Lib.byteCells l) w' ∧ Below B w w' ∧ Lib.OthersKept 5 (some b) w w') := Any.Builder_String_any_k Tryd.lays169 Tryd.Builder_Extra_169 B b l w h hBw
def Tryd.lays157_ren : Go.Shelf.Ren := ⟨fun | 157 => 42 | 229 => 52 | 199 => 53 | 261 => 60 | 311 => 74 | 312 => 75 | n => n, fun | 9 => 9 | 31 => 52 | 3 => 3 | 5 => 5 | 4 => 4 | 119 => 71 | 0 => 0 | 40 => 73 | 152 => 80 | 21 => 21 | 154 => 82 | 51 => 83 | 141 => 85 | 196 => 102 | 193 => 99 | 198 => 105 | 49 => 103 | 194 => 100 | 201 => 108 | 226 => 114 | 46 => 88 | 227 => 115 | n => n, fun | 0 => 0 | 6 => 1 | n => n⟩
theorem Tryd.lays157 : Go.Proofs.Lays.n157 Tryd.prog Tryd.lays157_ren := {
  mixed := by kernel_rfl
  f157 := Tryd.func42.trans (congrArg some (by kernel_rfl))
  f199 := Tryd.func53.trans (congrArg some (by kernel_rfl))
  f229 := Tryd.func52.trans (congrArg some (by kernel_rfl))
  f261 := Tryd.func60.trans (congrArg some (by kernel_rfl))
  f311 := Tryd.func74.trans (congrArg some (by kernel_rfl))
  f312 := Tryd.func75.trans (congrArg some (by kernel_rfl))
  t0 := Tryd.underlying0
  a0 := Tryd.isAgg0
  z0 := Tryd.sizeOf0
  v0 := Tryd.zeroValue0
  t3 := Tryd.underlying3
  a3 := Tryd.isAgg3
  z3 := Tryd.sizeOf3
  v3 := Tryd.zeroValue3
  t4 := Tryd.underlying4
  a4 := Tryd.isAgg4
  z4 := Tryd.sizeOf4
  v4 := Tryd.zeroValue4
  t5 := Tryd.underlying5
  a5 := Tryd.isAgg5
  z5 := Tryd.sizeOf5
  v5 := Tryd.zeroValue5
  t9 := Tryd.underlying9
  a9 := Tryd.isAgg9
  z9 := Tryd.sizeOf9
  v9 := Tryd.zeroValue9
  t21 := Tryd.underlying21
  a21 := Tryd.isAgg21
  z21 := Tryd.sizeOf21
  v21 := Tryd.zeroValue21
  t31 := Tryd.underlying52
  a31 := Tryd.isAgg52
  z31 := Tryd.sizeOf52
  v31 := Tryd.zeroValue52
  t40 := Tryd.underlying73
  a40 := Tryd.isAgg73
  z40 := Tryd.sizeOf73
  v40 := Tryd.zeroValue73
  t46 := Tryd.underlying88
  a46 := Tryd.isAgg88
  z46 := Tryd.sizeOf88
  v46 := Tryd.zeroValue88
  t49 := Tryd.underlying103
  a49 := Tryd.isAgg103
  z49 := Tryd.sizeOf103
  v49 := Tryd.zeroValue103
  t51 := Tryd.underlying83
  a51 := Tryd.isAgg83
  z51 := Tryd.sizeOf83
  v51 := Tryd.zeroValue83
  t119 := Tryd.underlying71
  a119 := Tryd.isAgg71
  z119 := Tryd.sizeOf71
  t141 := Tryd.underlying85
  a141 := Tryd.isAgg85
  z141 := Tryd.sizeOf85
  v141 := Tryd.zeroValue85
  t152 := Tryd.underlying80
  a152 := Tryd.isAgg80
  z152 := Tryd.sizeOf80
  v152 := Tryd.zeroValue80
  t154 := Tryd.underlying82
  a154 := Tryd.isAgg82
  z154 := Tryd.sizeOf82
  v154 := Tryd.zeroValue82
  t193 := Tryd.underlying99
  a193 := Tryd.isAgg99
  z193 := Tryd.sizeOf99
  v193 := Tryd.zeroValue99
  t194 := Tryd.underlying100
  a194 := Tryd.isAgg100
  z194 := Tryd.sizeOf100
  v194 := Tryd.zeroValue100
  t196 := Tryd.underlying102
  a196 := Tryd.isAgg102
  z196 := Tryd.sizeOf102
  v196 := Tryd.zeroValue102
  t198 := Tryd.underlying105
  a198 := Tryd.isAgg105
  z198 := Tryd.sizeOf105
  v198 := Tryd.zeroValue105
  t201 := Tryd.underlying108
  a201 := Tryd.isAgg108
  z201 := Tryd.sizeOf108
  v201 := Tryd.zeroValue108
  t226 := Tryd.underlying114
  a226 := Tryd.isAgg114
  z226 := Tryd.sizeOf114
  v226 := Tryd.zeroValue114
  t227 := Tryd.underlying115
  a227 := Tryd.isAgg115
  z227 := Tryd.sizeOf115
  v227 := Tryd.zeroValue115
  g0 := by kernel_rfl
  g6 := by kernel_rfl }
def Tryd.lays199_ren : Go.Shelf.Ren := ⟨fun | 199 => 53 | 261 => 60 | 311 => 74 | 312 => 75 | n => n, fun | 21 => 21 | 4 => 4 | 51 => 83 | 141 => 85 | 0 => 0 | 196 => 102 | 193 => 99 | 3 => 3 | 198 => 105 | 49 => 103 | 194 => 100 | 201 => 108 | 226 => 114 | 46 => 88 | 227 => 115 | n => n, fun | 6 => 1 | n => n⟩
theorem Tryd.lays199 : Go.Proofs.Lays.n199 Tryd.prog Tryd.lays199_ren := {
  mixed := by kernel_rfl
  f199 := Tryd.func53.trans (congrArg some (by kernel_rfl))
  f261 := Tryd.func60.trans (congrArg some (by kernel_rfl))
  f311 := Tryd.func74.trans (congrArg some (by kernel_rfl))
  f312 := Tryd.func75.trans (congrArg some (by kernel_rfl))
  t0 := Tryd.underlying0
  a0 := Tryd.isAgg0
  z0 := Tryd.sizeOf0
  v0 := Tryd.zeroValue0
  t3 := Tryd.underlying3
  a3 := Tryd.isAgg3
  z3 := Tryd.sizeOf3
  v3 := Tryd.zeroValue3
  t4 := Tryd.underlying4
  a4 := Tryd.isAgg4
  z4 := Tryd.sizeOf4
  v4 := Tryd.zeroValue4
  t21 := Tryd.underlying21
  a21 := Tryd.isAgg21
  z21 := Tryd.sizeOf21
  v21 := Tryd.zeroValue21
  t46 := Tryd.underlying88
  a46 := Tryd.isAgg88
  z46 := Tryd.sizeOf88
  v46 := Tryd.zeroValue88
  t49 := Tryd.underlying103
  a49 := Tryd.isAgg103
  z49 := Tryd.sizeOf103
  v49 := Tryd.zeroValue103
  t51 := Tryd.underlying83
  a51 := Tryd.isAgg83
  z51 := Tryd.sizeOf83
  v51 := Tryd.zeroValue83
  t141 := Tryd.underlying85
  a141 := Tryd.isAgg85
  z141 := Tryd.sizeOf85
  v141 := Tryd.zeroValue85
  t193 := Tryd.underlying99
  a193 := Tryd.isAgg99
  z193 := Tryd.sizeOf99
  v193 := Tryd.zeroValue99
  t194 := Tryd.underlying100
  a194 := Tryd.isAgg100
  z194 := Tryd.sizeOf100
  v194 := Tryd.zeroValue100
  t196 := Tryd.underlying102
  a196 := Tryd.isAgg102
  z196 := Tryd.sizeOf102
  v196 := Tryd.zeroValue102
  t198 := Tryd.underlying105
  a198 := Tryd.isAgg105
  z198 := Tryd.sizeOf105
  v198 := Tryd.zeroValue105
  t201 := Tryd.underlying108
  a201 := Tryd.isAgg108
  z201 := Tryd.sizeOf108
  v201 := Tryd.zeroValue108
  t226 := Tryd.underlying114
  a226 := Tryd.isAgg114
  z226 := Tryd.sizeOf114
  v226 := Tryd.zeroValue114
  t227 := Tryd.underlying115
  a227 := Tryd.isAgg115
  z227 := Tryd.sizeOf115
  v227 := Tryd.zeroValue115
  g6 := by kernel_rfl }
open Go.RowKit Go.Lib in
/-- **strings.Fields AT EVERY STRING, VALID UTF-8 OR NOT.** (LAID: no walk: one application.) -/
theorem Tryd.strings_Fields_any (s : ByteArray) (w : World) (hs : s.size < 4294967281) (htab : Lib.TabIs Tryd.prog w "strings.asciiSpace" .u8 Lib.asciiSpaceTab) (hW : Lib.WhiteTab 1 w) :
    Calls Tryd.prog 42 #[.string s] w fun e w' => ∃ A, e = .returned (.slice (some ⟨A, 0, none⟩) (Lib.fieldsD s.data.toList).length (Lib.fieldsD s.data.toList).length) ∧ w.heap.size ≤ A ∧
      w'.ownsRow w.heap.size 9 1 (.slice (some ⟨A, 0, none⟩) (Lib.fieldsD s.data.toList).length (Lib.fieldsD s.data.toList).length) (Lib.fieldsD s.data.toList).length ((Lib.fieldsD s.data.toList).map fun x => Value.string ⟨x.toArray⟩) ∧ Below w.heap.size w w' := Any.strings_Fields_any Tryd.lays157 (by kernel_rfl) (by kernel_rfl) (by kernel_rfl) s w hs htab hW
end Go.Proofs
