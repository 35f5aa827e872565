/- Their other places are as they should be. Conditions: none. -/
import Derived.Test.YtgodhbgnhapemaaGreatDoorOwn0
namespace Go.Proofs.YtgodhbgnhapemaaGreatDoor
open Go
theorem tie_r2 : ∀ os tape, (DataW.laidRun Tryz.prog (varsWorld Tryz.prog 400 (varsId Tryz.prog) os tape).memory 8 (tieList.map (·.1))).map (fun x => laidRowsB Tryz.prog (varsWorld Tryz.prog 400 (varsId Tryz.prog) os tape).memory (x.2.drop 150)) = some true := fun _ _ => by kernel_rfl
end Go.Proofs.YtgodhbgnhapemaaGreatDoor
