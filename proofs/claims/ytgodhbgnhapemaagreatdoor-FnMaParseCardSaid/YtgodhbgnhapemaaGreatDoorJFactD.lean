/- Closed facts of the row of FnMaParse. Conditions: none. -/
import Derived.Test.YtgodhbgnhapemaaGreatDoorRows
import Derived.JoinedOf
set_option linter.unusedVariables false
set_option linter.unusedSimpArgs false
/- Closed facts of the row of FnMaParse. Conditions: none. -/
namespace Go.Proofs.YtgodhbgnhapemaaGreatDoor
open Go
set_option maxHeartbeats 8000000
set_option maxRecDepth 100000
theorem fact11 : ((Rows.fnMaParseRow.recurses == Tryz.prog.recurses 3)) = true := by kernel_rfl
end Go.Proofs.YtgodhbgnhapemaaGreatDoor
