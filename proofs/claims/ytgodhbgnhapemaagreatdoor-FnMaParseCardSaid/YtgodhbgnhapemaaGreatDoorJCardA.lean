/- Closed facts of the card of FnMaParse. Conditions: none. -/
import Derived.Test.YtgodhbgnhapemaaGreatDoorRows
import Derived.SevenTiedAt
set_option linter.unusedVariables false
set_option linter.unusedSimpArgs false
/- Closed facts of the card of FnMaParse. Conditions: none. -/
namespace Go.Proofs.YtgodhbgnhapemaaGreatDoor
open Go
set_option maxHeartbeats 8000000
set_option maxRecDepth 100000
theorem cardW : Rows.fnMaParseRow.wfByText (OpenSpec.ofChange Rows.fnMaParseSpec) = true := by kernel_rfl
theorem cardM : Tryz.pinned.checked.prog.mainIs = some (true, "cf1f8847bbe9656a3c5fe1902c629319858d7f8404cc6d7f6fb7c931d930602b".toList) := by kernel_rfl
theorem cardI : ([22].all fun u => !Tryz.prog.wantsStandIn u) = true := by kernel_rfl
end Go.Proofs.YtgodhbgnhapemaaGreatDoor
/- Closed facts of the card of FnMaParse. Conditions: none. -/
namespace Go.Proofs.YtgodhbgnhapemaaGreatDoor
open Go
set_option maxHeartbeats 8000000
set_option maxRecDepth 100000
theorem cardL : true = Tryz.prog.looks [] := by kernel_rfl
end Go.Proofs.YtgodhbgnhapemaaGreatDoor
