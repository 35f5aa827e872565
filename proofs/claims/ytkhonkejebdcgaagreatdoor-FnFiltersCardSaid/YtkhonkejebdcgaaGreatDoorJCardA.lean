/- Closed facts of the card of FnFilters. Conditions: none. -/
import Derived.Test.YtkhonkejebdcgaaGreatDoorRows
import Derived.SevenTiedAt
/- Closed facts of the card of FnFilters. Conditions: none. -/
namespace Go.Proofs.YtkhonkejebdcgaaGreatDoor
open Go
set_option maxHeartbeats 8000000
set_option maxRecDepth 100000
theorem cardW : Rows.fnFiltersRow.wfByText (OpenSpec.ofChange Rows.fnFiltersSpec) = true := by kernel_rfl
theorem cardM : Tryz.pinned.checked.prog.mainIs = some (true, "678aa235d07d831df122f7249a736d2eca334b75b181fa1b37f444950a740a73".toList) := by kernel_rfl
theorem cardI : ([22].all fun u => !Tryz.prog.wantsStandIn u) = true := by kernel_rfl
end Go.Proofs.YtkhonkejebdcgaaGreatDoor
/- Closed facts of the card of FnFilters. Conditions: none. -/
namespace Go.Proofs.YtkhonkejebdcgaaGreatDoor
open Go
set_option maxHeartbeats 8000000
set_option maxRecDepth 100000
theorem cardL : true = Tryz.prog.looks [] := by kernel_rfl
end Go.Proofs.YtkhonkejebdcgaaGreatDoor
