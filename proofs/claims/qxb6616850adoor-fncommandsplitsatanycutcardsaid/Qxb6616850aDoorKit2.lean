/-
  What the rows that list the table of powers of ten share: the witness's world; the table out of the condition.
-/
import Derived.Test.Qxb6616850aDoorKit
import Derived.Test.Qxb6616850aDoorApp
import Derived.Lib.LaidTab
import Derived.Stop.LaidErr
namespace Go.Proofs.Qxb6616850aDoor
open Go.ChangeShapes Go.WideShapes Go.ChangeAt Go.WideMaps Go.WideElems Go.RowKit

/-- The door's own heap meets the condition. -/
theorem door_met4 (os : Os) (args : Array Value) : laidMetH Tryd.prog Rows.fnFlushDeliversExactlyWhatWasWrittenRow.laid ((World.doorLaid Tryd.prog 62 os).forCall (fun _ _ => 0) ⟨#[], args, []⟩).memory :=
  laidMetH_of_parts3 (fuel := 8) (laidMet_of_run' 8 (by kernel_rfl) (by kernel_rfl)) (by kernel_rfl) (by kernel_rfl)

theorem powT : (Tryd.prog.globals[1]?).map (·.type) = some 90 := by kernel_rfl
theorem pow64 : Tryd.prog.cellsOf 64 = 1 := by kernel_rfl
theorem pow90 : Tryd.prog.cellsOf 90 = 20 := by kernel_rfl

/-- The table of powers of ten, out of the condition. -/
theorem tab_of_laid {W : World} (h : laidMetH Tryd.prog Rows.fnFlushDeliversExactlyWhatWasWrittenRow.laid W) : Tab W := by
  rw [MakeChecks.laidMetH_plain _ _ _ (by kernel_rfl)] at h
  exact Lib.tabIs_of_head powG powT Tryd.underlying90 Tryd.underlying64 pow64 pow90 h.tail.tail

end Go.Proofs.Qxb6616850aDoor
