/- laws.FnBack, part 52 of 54: X5. -/
import Derived.Test.YtnbbppjgamdfeaaGreatDoorRows
import Derived.ProofKit
import Derived.LaidMore
import Derived.OpenShut
import Derived.Stop.Joined

/- The door's own heap meets the row's condition. -/
section
set_option linter.unusedVariables false
namespace Go.Proofs.YtnbbppjgamdfeaaGreatDoor
open Go.ChangeShapes Go.WideShapes Go.ChangeAt Go.RowKit
set_option maxRecDepth 100000
theorem door_met (os : Os) (args : Array Value) : laidMetH Tryz.prog Rows.fnBackRow.laid ((World.doorLaid Tryz.prog 400 os).forCall (fun _ _ => 0) ⟨#[], args, []⟩).memory :=
  laidMetH_of_parts3 (fuel := 8) (laidMet_of_run' 8 (by kernel_rfl) (by kernel_rfl)) (by kernel_rfl) (by kernel_rfl)
end Go.Proofs.YtnbbppjgamdfeaaGreatDoor
end
