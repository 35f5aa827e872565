/- Their places differ. Conditions: none. -/
import Derived.Test.YtgodhbgnhapemaaGreatDoorOwn0
namespace Go.Proofs.YtgodhbgnhapemaaGreatDoor
open Go
theorem tie_n : ∀ os tape, (DataW.laidRun Tryz.prog (varsWorld Tryz.prog 400 (varsId Tryz.prog) os tape).memory 8 (tieList.map (·.1))).map (fun x => once x.2 0) = some true := fun _ _ => by kernel_rfl
end Go.Proofs.YtgodhbgnhapemaaGreatDoor
