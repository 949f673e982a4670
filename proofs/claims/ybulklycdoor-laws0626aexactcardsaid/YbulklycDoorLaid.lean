/-
  WHAT THE ROWS' LISTED VARIABLES GIVE: the table of powers of ten; and that the door's own heap meets the list.
-/
import Derived.Test.YbulklycDoorLine
import Derived.ProofKit
import Derived.LaidMore
import Derived.OpenShut
import Derived.Stop.Joined
import Derived.Stop.LaidErr
import Derived.Lib.LaidTab
namespace Go.Proofs.YbulklycDoor
open Go.ChangeShapes Go.WideShapes Go.ChangeAt Go.RowKit
set_option linter.unusedVariables false

theorem own : ownKnob Ybad.prog.godebug = none := by kernel_rfl

/-- The listed variables (one list for both rows). -/
def laid3 : List (String × DataW Unit) := Rows.lawS0626AExactRow.laid

theorem door_met (os : Os) (args : Array Value) : laidMetH Ybad.prog laid3 ((World.doorLaid Ybad.prog 400 os).forCall (fun _ _ => 0) ⟨#[], args, []⟩).memory :=
  laidMetH_of_parts3 (fuel := 8) (laidMet_of_run' 8 (by kernel_rfl) (by kernel_rfl)) (by kernel_rfl) (by kernel_rfl)

theorem gPow : Ybad.prog.globalNamed powName = some 0 := by kernel_rfl
theorem tPow : (Ybad.prog.globals[0]?).map (·.type) = some 36 := by kernel_rfl
theorem cells26 : Ybad.prog.cellsOf 26 = 1 := by kernel_rfl
theorem cells36 : Ybad.prog.cellsOf 36 = 20 := by kernel_rfl

theorem pow_of_laid {W : World} (h : laidMetH Ybad.prog laid3 W) : Lib.TabIs Ybad.prog W powName .u64 Lib.pow10Tab := by
  rw [MakeChecks.laidMetH_plain _ _ _ (by kernel_rfl)] at h
  have h1 : laidMet Ybad.prog laid3 W := h
  have h2 : laidMet Ybad.prog [(powName, Lib.tabData .u64 Lib.pow10Tab)] W := laidMet.tail (laidMet.tail h1)
  exact Lib.tabIs_of_head (rest := []) gPow tPow Ybad.underlying36 Ybad.underlying26 cells26 cells36 h2
end Go.Proofs.YbulklycDoor
