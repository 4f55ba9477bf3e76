/-
  SEAT b6602904aD: what the rows list of package-level variables, and what it gives the walks.
-/
import Derived.Test.Qxb6602904aDoorRows
import Derived.Test.Qxb6602904aDoorHas
import Derived.ProofKit
import Derived.LaidMore
import Derived.OpenShut
import Derived.ShutString
import Derived.Stop.Joined
import Derived.Lib.LaidU8
namespace Go.Proofs.Qxb6602904aDoor
open Go.ChangeShapes Go.WideShapes Go.ChangeAt Go.RowKit

theorem own : ownKnob Tryd.prog.godebug = none := by kernel_rfl
theorem laidOut : laidOutB Tryd.prog = true := by kernel_rfl

def laid2 : List (String × DataW Unit) := [("unicode.White_Space", Rows.laid_unicode_White_Space), ("strings.asciiSpace", Rows.laid_strings_asciiSpace)]

theorem white_eq : (Rows.laid_unicode_White_Space : DataW Unit) = Lib.whiteData := by kernel_rfl
theorem space_eq : (Rows.laid_strings_asciiSpace : DataW Unit) = Lib.tabData .u8 Lib.asciiSpaceTab := by kernel_rfl

theorem Tryd.tSpace : (Tryd.prog.globals[0]?).map (·.type) = some 44 := by kernel_rfl

theorem of_laid {W : World} (h : laidMetH Tryd.prog laid2 W) : Tabs W := by
  rw [MakeChecks.laidMetH_plain _ _ _ (by kernel_rfl)] at h
  have h1 := Lib.laidMet.reads h (n := "unicode.White_Space") (d := Rows.laid_unicode_White_Space) (.head _)
  have h2 := Lib.laidMet.reads h (n := "strings.asciiSpace") (d := Rows.laid_strings_asciiSpace) (.tail _ (.head _))
  rw [white_eq] at h1
  rw [space_eq] at h2
  refine ⟨?_, ?_⟩
  · obtain ⟨g, t, cs, fuel, p, hg, ht, hvar, hd⟩ := h2
    obtain rfl := Option.some.inj (Tryd.gSpace.symm.trans hg)
    obtain rfl := Option.some.inj (Tryd.tSpace.symm.trans ht)
    unfold Lib.TabIs
    rw [hvar, ← Lib.cells_of_tab Tryd.underlying44 Tryd.underlying5 (by kernel_rfl) (by kernel_rfl) hd]
  · exact whiteTab_of_reads Tryd.lays199 ⟨by kernel_rfl, by kernel_rfl, by kernel_rfl, by kernel_rfl, by kernel_rfl, by kernel_rfl, by kernel_rfl, by kernel_rfl⟩ h1

theorem door_met (os : Os) (args : Array Value) : laidMetH Tryd.prog laid2 ((World.doorLaid Tryd.prog 400 os).forCall (fun _ _ => 0) ⟨#[], args, []⟩).memory :=
  laidMetH_of_parts3 (fuel := 8) (laidMet_of_run' 8 (by kernel_rfl) (by kernel_rfl)) (by kernel_rfl) (by kernel_rfl)
end Go.Proofs.Qxb6602904aDoor
