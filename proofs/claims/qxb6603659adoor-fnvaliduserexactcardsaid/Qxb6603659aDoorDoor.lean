/-
  The witness's world.
-/
import Derived.Test.Qxb6603659aDoorLaid
import Derived.Deep.DeepLaidRun
namespace Go.Proofs.Qxb6603659aDoor
open Go.ChangeShapes Go.WideShapes Go.ChangeAt Go.RowKit

/-- A world in which the tables lie as the program's text lays them. -/
theorem door_met (os : Os) (args : Array Value) : laidMetH Tryd.prog Rows.fnValidUserExactRow.laid (((World.doorLaid Tryd.prog 43 os).setRow 0 (Lib.firstTab.map (Value.int .u8)).toArray).forCall (fun _ _ => 0) ⟨#[], args, []⟩).memory :=
  laidMetH_of_parts3 (fuel := 8) (laidMet_of_run3 8 (by kernel_rfl) (by kernel_rfl) (by kernel_rfl)) (by kernel_rfl) (by kernel_rfl)
end Go.Proofs.Qxb6603659aDoor
