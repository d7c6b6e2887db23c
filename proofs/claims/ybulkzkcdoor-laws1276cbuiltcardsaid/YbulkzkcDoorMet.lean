/- The listed variables: the door's own heap meets what the rows lay. -/
import Derived.Test.YbulkzkcDoorRows
import Derived.ProofKit
import Derived.LaidMore
import Derived.OpenShut
import Derived.Stop.Joined
namespace Go.Proofs.YbulkzkcDoor.Met
open Go.ChangeShapes Go.WideShapes Go.ChangeAt Go.RowKit

def laid : List (String × DataW Unit) := Rows.lawS1276CModelRow.laid

set_option maxRecDepth 100000 in
/-- The door's own heap meets the condition: closed facts. -/
theorem door_met (os : Os) (args : Array Value) : laidMetH Ybad.prog laid ((World.doorLaid Ybad.prog 4000 os).forCall (fun _ _ => 0) ⟨#[], args, []⟩).memory :=
  laidMetH_of_parts3 (fuel := 8) (laidMet_of_run' 8 (by kernel_rfl) (by kernel_rfl)) (by kernel_rfl) (by kernel_rfl)
end Go.Proofs.YbulkzkcDoor.Met
