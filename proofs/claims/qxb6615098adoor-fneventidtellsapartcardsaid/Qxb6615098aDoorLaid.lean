import Derived.Test.Qxb6615098aDoorRows
import Derived.Test.Qxb6615098aDoorTag
import Derived.Lib.LaidTab
import Derived.Stop.LaidErr
namespace Go.Proofs.Qxb6615098aDoor
open Go.ChangeShapes Go.WideShapes Go.ChangeAt Go.RowKit

theorem own : ownKnob Tryd.prog.godebug = none := by kernel_rfl
/-- What both rows list. -/
abbrev laid3 : List (String × DataW Unit) := Rows.fnEventIDDecimalTailRow.laid
theorem laid3_apart : Rows.fnEventIDTellsApartRow.laid = laid3 := rfl
theorem gPow : Tryd.prog.globalNamed Tryd.tabName = some 0 := by kernel_rfl
theorem tPow : (Tryd.prog.globals[0]?).map (·.type) = some 46 := by kernel_rfl
theorem Tryd.cells46 : Tryd.prog.cellsOf 46 = 20 := by kernel_rfl
theorem Tryd.cells23 : Tryd.prog.cellsOf 23 = 1 := by kernel_rfl
theorem pow_data : (Rows.laid_internal_strconv_uint64pow10 : DataW Unit) = Lib.tabData .u64 Lib.pow10Tab := by kernel_rfl

theorem door_met (os : Os) (args : Array Value) : laidMetH Tryd.prog laid3 ((World.doorLaid Tryd.prog 24 os).forCall (fun _ _ => 0) ⟨#[], args, []⟩).memory :=
  laidMetH_of_parts3 (fuel := 8) (laidMet_of_run' 8 (by kernel_rfl) (by kernel_rfl)) (by kernel_rfl) (by kernel_rfl)

theorem tab_of_laid {W : World} (h : laidMetH Tryd.prog laid3 W) : Tab W := by
  rw [MakeChecks.laidMetH_plain _ _ _ (by kernel_rfl)] at h
  have h2 : laidMet Tryd.prog [(Tryd.tabName, Rows.laid_internal_strconv_uint64pow10)] W := laidMet.tail (laidMet.tail h)
  rw [pow_data] at h2
  exact Lib.tabIs_of_head gPow tPow Tryd.underlying46 Tryd.underlying23 Tryd.cells23 Tryd.cells46 h2
end Go.Proofs.Qxb6615098aDoor
