import Derived.Test.Qxb6600704aDoorQb
import Derived.Lib.LaidU8
import Derived.Lib.LaidTab
import Derived.Lay
import Derived.LaidMore
import Derived.Stop.Joined
namespace Go.Proofs.Qxb6600704aDoor
open Go.RowKit

theorem own : ownKnob Tryd.prog.godebug = none := by kernel_rfl
def laid : List (String × DataW Unit) := [("unicode.White_Space", Rows.laid_unicode_White_Space), ("strings.asciiSpace", Rows.laid_strings_asciiSpace)]
theorem laid_plain (w : World) : laidMetH Tryd.prog laid w = laidMet Tryd.prog laid w := MakeChecks.laidMetH_plain _ _ _ (by kernel_rfl)
theorem laidAll_met (os : Os) (args : Array Value) : laidMetH Tryd.prog laid ((World.laidAll Tryd.prog os laid).forCall (fun _ _ => 0) ⟨#[], args, []⟩).memory := by
  rw [laid_plain]
  exact laidMet_laidAll _ (by kernel_rfl) (by kernel_rfl)
theorem white_eq : Rows.laid_unicode_White_Space = Lib.whiteData := by kernel_rfl
theorem space_eq : (Rows.laid_strings_asciiSpace : DataW Unit) = Lib.tabData .u8 Lib.asciiSpaceTab := by kernel_rfl
theorem tabs_of_laid {W : World} (h : laidMetH Tryd.prog laid W) : Tabs W := by
  rw [laid_plain] at h
  have h1 := Lib.laidMet.reads h (n := "unicode.White_Space") (d := Rows.laid_unicode_White_Space) (.head _)
  have h2 := Lib.laidMet.reads h (n := "strings.asciiSpace") (d := Rows.laid_strings_asciiSpace) (.tail _ (.head _))
  rw [white_eq] at h1
  rw [space_eq] at h2
  refine ⟨?_, whiteTab_of_reads { Tryd.lays199 with } ⟨by kernel_rfl, by kernel_rfl, by kernel_rfl, by kernel_rfl, by kernel_rfl, by kernel_rfl, by kernel_rfl, by kernel_rfl⟩ h1⟩
  obtain ⟨g, t, cs, fuel, p, hg, hty, hvar, hd⟩ := h2
  obtain rfl := Option.some.inj ((show Tryd.prog.globalNamed "strings.asciiSpace" = some (Tryd.lays157_ren.g 0) by kernel_rfl).symm.trans hg)
  obtain rfl := Option.some.inj ((show (Tryd.prog.globals[Tryd.lays157_ren.g 0]?).map (·.type) = some 71 by kernel_rfl).symm.trans hty)
  unfold Lib.TabIs
  rw [hvar, ← Lib.cells_of_tab (n := 256) Tryd.underlying71 Tryd.underlying5 (by kernel_rfl) (by kernel_rfl) hd]
end Go.Proofs.Qxb6600704aDoor
