/-
  The start for the witness: the heap that the program's own door leaves.
-/
import Derived.Test.YtfigpbcmnlkdjaaDoorCards
import Derived.Test.YtfigpbcmnlkdjaaDoorTie
import Derived.Test.YtfigpbcmnlkdjaaDoorErrsR
namespace Go.Proofs.YtfigpbcmnlkdjaaDoor
open Go.RowKit Go.ChangeShapes

theorem own : ownKnob Tryd.prog.godebug = none := by kernel_rfl
theorem laidOut : laidOutB Tryd.prog = true := by kernel_rfl

theorem door_met (os : Os) (args : Array Value) : laidMet Tryd.prog laidW ((World.doorLaid Tryd.prog 209 os).forCall (fun _ _ => 0) ⟨#[], args, []⟩).memory :=
  laidMet_of_run' 8 (by kernel_rfl) (by kernel_rfl)
end Go.Proofs.YtfigpbcmnlkdjaaDoor
