/- The tie, part two: what the variables read as, and at which places, behind the run of the initialisers. No condition. -/
import Derived.Test.YtmhlnijpimjjaaaGreatDoorM04
namespace Go.Proofs.YtmhlnijpimjjaaaGreatDoor
open Go
theorem tie_run : ∀ os tape, DataW.laidRun Tryz.prog (varsWorld Tryz.prog 400 (varsId Tryz.prog) os tape).memory 8 (laidL.map (·.1)) = some (laidL, laidPs) := fun _ _ => by kernel_rfl
end Go.Proofs.YtmhlnijpimjjaaaGreatDoor
