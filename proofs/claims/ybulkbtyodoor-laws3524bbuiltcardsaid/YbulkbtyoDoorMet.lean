/-
  The witness: the heap that the door's own run leaves meets the condition.
-/
import Derived.Test.YbulkbtyoDoorBase
namespace Go.Proofs.YbulkbtyoDoor
open Go.RowKit
theorem door_met (os : Os) (args : Array Value) : laidMetH Ybad.prog laid1 ((World.doorLaid Ybad.prog 2090 os).forCall (fun _ _ => 0) ⟨#[], args, []⟩).memory :=
  laidMetH_of_parts3 (fuel := 8) (laidMet_of_run' 8 (by kernel_rfl) (by kernel_rfl)) (by kernel_rfl) (by kernel_rfl)

end Go.Proofs.YbulkbtyoDoor
