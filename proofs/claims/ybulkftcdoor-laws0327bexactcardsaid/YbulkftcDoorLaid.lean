/-
  The frame's common part: from the row's condition on the listed variables to the table that Itoa reads; a start in which the program's own text has laid them.
-/
import Derived.Test.YbulkftcDoorItoa
import Derived.ProofKit
import Derived.LaidMore
import Derived.Lib.LaidTab
import Derived.OpenShut
import Derived.Stop.Joined
import Derived.Stop.LaidErr
namespace Go.Proofs.YbulkftcDoor
open Go.ChangeShapes Go.WideShapes Go.ChangeAt Go.RowKit

theorem own : ownKnob Ybad.prog.godebug = none := by kernel_rfl

/-- The three tables, as both rows list them. -/
def laid3 : List (String × DataW Unit) := Rows.lawS0327BExactRow.laid

theorem last_is : laid3.drop 2 = [(tabName, Lib.tabData .u64 Lib.pow10Tab)] := by kernel_rfl

/-- WHAT THE CONDITION GIVES THE WALKS: the table of the powers of ten. -/
theorem tab_of_laid {W : World} (h : laidMetH Ybad.prog laid3 W) : Tab W := by
  rw [MakeChecks.laidMetH_plain _ _ _ (by kernel_rfl)] at h
  have h1 : laidMet Ybad.prog (laid3.drop 2) W := laidMet.tail (laidMet.tail h)
  rw [last_is] at h1
  exact Lib.tabIs_of_head (t := 38) (e := 28) (n := 20) tabName_global (by kernel_rfl) Ybad.underlying38 Ybad.underlying28 (by kernel_rfl) (by kernel_rfl) h1

/-- The door's own heap meets the condition. -/
theorem door_met (os : Os) (args : Array Value) : laidMetH Ybad.prog laid3 ((World.doorLaid Ybad.prog 400 os).forCall (fun _ _ => 0) ⟨#[], args, []⟩).memory :=
  laidMetH_of_parts3 (fuel := 8) (laidMet_of_run' 8 (by kernel_rfl) (by kernel_rfl)) (by kernel_rfl) (by kernel_rfl)
end Go.Proofs.YbulkftcDoor
