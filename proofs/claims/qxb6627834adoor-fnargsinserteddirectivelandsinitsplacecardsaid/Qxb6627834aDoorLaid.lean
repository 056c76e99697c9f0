/-
  What the two rows' condition on the library's tables gives the walks; the witness' door.
-/
import Derived.Test.Qxb6627834aDoorArgs
import Derived.Test.Qxb6627834aDoorRows
import Derived.Lib.LaidU8
import Derived.LaidMore
import Derived.ProofKit
import Derived.OpenShut
import Derived.Stop.Joined
namespace Go.Proofs.Qxb6627834aDoor.laid
open Go.ChangeShapes Go.WideShapes Go.ChangeAt Go.WideMaps Go.WideElems Go.RowKit
set_option linter.unusedVariables false

theorem own : ownKnob Tryd.prog.godebug = none := by kernel_rfl
theorem laidOut : laidOutB Tryd.prog = true := by kernel_rfl

/-- The list of both rows. -/
def laid2 {H : Type} : List (String × DataW H) := [("unicode.White_Space", Rows.laid_unicode_White_Space), ("strings.asciiSpace", Rows.laid_strings_asciiSpace)]

theorem white_is : (Rows.laid_unicode_White_Space : DataW Unit) = Lib.whiteData := by kernel_rfl
theorem ascii_is : (Rows.laid_strings_asciiSpace : DataW Unit) = Lib.tabData .u8 Lib.asciiSpaceTab := by kernel_rfl
theorem tAscii : ∃ t, (Tryd.prog.globals[0]?).map (·.type) = some t ∧ Tryd.prog.underlying t = some (.array 256 5) ∧ Tryd.prog.cellsOf t = 256 := ⟨44, by kernel_rfl, by kernel_rfl, by kernel_rfl⟩
theorem c5 : Tryd.prog.cellsOf 5 = 1 := by kernel_rfl

/-- WHAT THE CONDITION GIVES: the two tables. -/
theorem tabs_of {W : World} (h : laidMetH Tryd.prog laid2 W) : args.Tabs W := by
  rw [MakeChecks.laidMetH_plain _ _ _ (by kernel_rfl)] at h
  refine ⟨?_, ?_⟩
  · have hr : Lib.VarReads Tryd.prog W "strings.asciiSpace" Rows.laid_strings_asciiSpace := Lib.laidMet.reads h (.tail _ (.head _))
    rw [ascii_is] at hr
    obtain ⟨g, t, cs, fuel, p, hg, hty, hvar, hd⟩ := hr
    obtain rfl := Option.some.inj (args.gAscii.symm.trans hg)
    obtain ⟨t', e1, e2, e3⟩ := tAscii
    obtain rfl := Option.some.inj (e1.symm.trans hty)
    have hcs := Lib.cells_of_tab e2 Tryd.underlying5 c5 e3 hd
    show W.var? Tryd.prog "strings.asciiSpace" = _
    rw [hvar, ← hcs]
  · have hr : Lib.VarReads Tryd.prog W "unicode.White_Space" Rows.laid_unicode_White_Space := Lib.laidMet.reads h (.head _)
    rw [white_is] at hr
    exact whiteTab_of_reads Tryd.lays199 ⟨by kernel_rfl, by kernel_rfl, by kernel_rfl, by kernel_rfl, by kernel_rfl, by kernel_rfl, by kernel_rfl, by kernel_rfl⟩ hr

/-- The door's own heap meets the condition. -/
theorem door_met (os : Os) (xs : Array Value) : laidMetH Tryd.prog laid2 ((World.doorLaid Tryd.prog 400 os).forCall (fun _ _ => 0) ⟨#[], xs, []⟩).memory :=
  laidMetH_of_parts3 (fuel := 8) (laidMet_of_run' 8 (by kernel_rfl) (by kernel_rfl)) (by kernel_rfl) (by kernel_rfl)

end Go.Proofs.Qxb6627834aDoor.laid
