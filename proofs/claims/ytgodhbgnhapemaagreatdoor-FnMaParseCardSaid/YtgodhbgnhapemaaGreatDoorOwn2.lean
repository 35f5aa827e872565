/- They hold what is listed. Conditions: none. -/
import Derived.Test.YtgodhbgnhapemaaGreatDoorOwn0
namespace Go.Proofs.YtgodhbgnhapemaaGreatDoor
open Go
theorem tie_h1 : ∀ os tape, (DataW.laidRun Tryz.prog (varsWorld Tryz.prog 400 (varsId Tryz.prog) os tape).memory 8 (tieList.map (·.1))).map (·.1) = some tieList := fun _ _ => by kernel_rfl
end Go.Proofs.YtgodhbgnhapemaaGreatDoor
