/- Closed facts of the row of FnFilters. Conditions: none. -/
import Derived.Test.YtkhonkejebdcgaaGreatDoorRows
import Derived.JoinedOf
/- Closed facts of the row of FnFilters. Conditions: none. -/
namespace Go.Proofs.YtkhonkejebdcgaaGreatDoor
open Go
set_option maxHeartbeats 8000000
set_option maxRecDepth 100000
theorem fact12 : ((Rows.fnFiltersRow.named == Tryz.prog.varsNamed 3)) = true := by kernel_rfl
end Go.Proofs.YtkhonkejebdcgaaGreatDoor
