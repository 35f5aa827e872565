/- Closed facts of the row of FnFilters. Conditions: none. -/
import Derived.Test.YtkhonkejebdcgaaGreatDoorRows
import Derived.JoinedOf
/- Closed facts of the row of FnFilters. Conditions: none. -/
namespace Go.Proofs.YtkhonkejebdcgaaGreatDoor
open Go
set_option maxHeartbeats 8000000
set_option maxRecDepth 100000
theorem fact24 : (Tryz.prog.stopsHeard) = true := by kernel_rfl
theorem fact25 : (Tryz.prog.mayEnter) = true := by kernel_rfl
end Go.Proofs.YtkhonkejebdcgaaGreatDoor
