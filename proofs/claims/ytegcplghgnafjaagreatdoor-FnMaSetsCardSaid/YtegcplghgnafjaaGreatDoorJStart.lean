/- A start of the row of FnMaSets: its variables are laid, and the arguments are empty. Conditions: none. -/
import Derived.Test.YtegcplghgnafjaaGreatDoorRows
import Derived.LaidMore
import Derived.Lay
import Derived.ProofKit
/- A start of the row of FnMaSets: its variables are laid, and the arguments are empty. Conditions: none. -/
namespace Go.Proofs.YtegcplghgnafjaaGreatDoor
open Go Go.ChangeShapes Go.WideShapes Go.RowKit
set_option maxHeartbeats 8000000
set_option maxRecDepth 100000
abbrev noArgs : Array Value := #[.slice none 0 0, .slice none 0 0, .slice none 0 0]
theorem ownKnobs : ownKnob Tryz.prog.godebug = none := by kernel_rfl
theorem laidOut : laidOutB Tryz.prog = true := by kernel_rfl
theorem laid_start (os : Os) : laidMetH Tryz.prog Rows.fnMaSetsRow.laid ((World.laidAll Tryz.prog os Rows.fnMaSetsRow.laid).forCall (fun _ _ => 0) ⟨#[], noArgs, []⟩).memory := by
  rw [MakeChecks.laidMetH_plain _ _ _ (by kernel_rfl)]
  exact laidMet_laidAll _ (by kernel_rfl) (by kernel_rfl)
theorem shaped_start (os : Os) : ((World.laidAll Tryz.prog os Rows.fnMaSetsRow.laid).forCall (fun _ _ => 0) ⟨#[], noArgs, []⟩).Shaped Tryz.prog := World.shaped_of_ZipB (by kernel_rfl) (by kernel_rfl)
theorem okWide_start (os : Os) : Input.okWideB Tryz.prog ((World.laidAll Tryz.prog os Rows.fnMaSetsRow.laid).forCall (fun _ _ => 0) ⟨#[], noArgs, []⟩) 3 ⟨#[], noArgs, []⟩ = true := by kernel_rfl
theorem pre_start (os : Os) {H : Type} (enc : TypeId × Value → H) : Rows.fnMaSetsSpec.preB enc Tryz.prog Tryz.f3 [] false ((World.laidAll Tryz.prog os Rows.fnMaSetsRow.laid).forCall (fun _ _ => 0) ⟨#[], noArgs, []⟩).memory noArgs 8 = true := by kernel_rfl
theorem sized_start (os : Os) {H : Type} (enc : TypeId × Value → H) : Rows.fnMaSetsSpec.sizedB enc Tryz.prog Tryz.f3 false ((World.laidAll Tryz.prog os Rows.fnMaSetsRow.laid).forCall (fun _ _ => 0) ⟨#[], noArgs, []⟩).memory noArgs 8 = true := by kernel_rfl
theorem notInit : Tryz.prog.inits.idxOf? 3 = none := by kernel_rfl
theorem funcNamed : Tryz.prog.funcNamed "pub-brocade/laws.FnMaSets" = some 3 := by kernel_rfl
end Go.Proofs.YtegcplghgnafjaaGreatDoor
