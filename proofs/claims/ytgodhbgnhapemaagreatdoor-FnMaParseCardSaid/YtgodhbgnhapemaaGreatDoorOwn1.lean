/- The variables are laid in so many steps. Conditions: none. -/
import Derived.Test.YtgodhbgnhapemaaGreatDoorOwn0
namespace Go.Proofs.YtgodhbgnhapemaaGreatDoor
open Go
theorem tie_d : ∀ os tape, varsDone Tryz.prog 400 (varsId Tryz.prog) os tape = true := fun _ _ => by kernel_rfl
end Go.Proofs.YtgodhbgnhapemaaGreatDoor
