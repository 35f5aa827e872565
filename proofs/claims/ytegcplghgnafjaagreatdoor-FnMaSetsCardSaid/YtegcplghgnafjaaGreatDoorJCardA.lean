/- Closed facts of the card of FnMaSets. Conditions: none. -/
import Derived.Test.YtegcplghgnafjaaGreatDoorRows
import Derived.SevenTiedAt
/- Closed facts of the card of FnMaSets. Conditions: none. -/
namespace Go.Proofs.YtegcplghgnafjaaGreatDoor
open Go
set_option maxHeartbeats 8000000
set_option maxRecDepth 100000
theorem cardW : Rows.fnMaSetsRow.wfByText (OpenSpec.ofChange Rows.fnMaSetsSpec) = true := by kernel_rfl
theorem cardM : Tryz.pinned.checked.prog.mainIs = some (true, "08449535351ffd509b877f4a52930b6cefe25b42eb81309bb1d8960b51a23b9f".toList) := by kernel_rfl
theorem cardI : ([22, 23, 24].all fun u => !Tryz.prog.wantsStandIn u) = true := by kernel_rfl
end Go.Proofs.YtegcplghgnafjaaGreatDoor
/- Closed facts of the card of FnMaSets. Conditions: none. -/
namespace Go.Proofs.YtegcplghgnafjaaGreatDoor
open Go
set_option maxHeartbeats 8000000
set_option maxRecDepth 100000
theorem cardL : true = Tryz.prog.looks [] := by kernel_rfl
end Go.Proofs.YtegcplghgnafjaaGreatDoor
