/- A start of the row of FnMaParse: its variables are laid, and the arguments are empty. Conditions: none. -/
import Derived.Test.YtgodhbgnhapemaaGreatDoorRows
import Derived.LaidMore
import Derived.Lay
import Derived.ProofKit
import Derived.Lib.LaidTab
import Derived.MakeChecks
import Derived.Test.YtgodhbgnhapemaaGreatDoorJText
set_option linter.unusedVariables false
set_option linter.unusedSimpArgs false
/- A start of the row of FnMaParse: its variables are laid, and the arguments are empty. Conditions: none. -/
namespace Go.Proofs.YtgodhbgnhapemaaGreatDoor
open Go Go.ChangeShapes Go.WideShapes Go.RowKit
set_option maxHeartbeats 8000000
set_option maxRecDepth 100000
abbrev noArgs : Array Value := #[.slice none 0 0]
theorem ownKnobs : ownKnob Tryz.prog.godebug = none := by kernel_rfl
theorem laidOut : laidOutB Tryz.prog = true := by kernel_rfl
theorem laid_start (os : Os) : laidMetH Tryz.prog Rows.fnMaParseRow.laid ((World.laidAll Tryz.prog os Rows.fnMaParseRow.laid).forCall (fun _ _ => 0) ⟨#[], noArgs, []⟩).memory := by
  rw [MakeChecks.laidMetH_plain _ _ _ (by kernel_rfl)]
  exact laidMet_laidAll _ (by kernel_rfl) (by kernel_rfl)
theorem shaped_start (os : Os) : ((World.laidAll Tryz.prog os Rows.fnMaParseRow.laid).forCall (fun _ _ => 0) ⟨#[], noArgs, []⟩).Shaped Tryz.prog := World.shaped_of_ZipB (by kernel_rfl) (by kernel_rfl)
theorem okWide_start (os : Os) : Input.okWideB Tryz.prog ((World.laidAll Tryz.prog os Rows.fnMaParseRow.laid).forCall (fun _ _ => 0) ⟨#[], noArgs, []⟩) 3 ⟨#[], noArgs, []⟩ = true := by kernel_rfl
theorem pre_start (os : Os) {H : Type} (enc : TypeId × Value → H) : Rows.fnMaParseSpec.preB enc Tryz.prog Tryz.f3 [] false ((World.laidAll Tryz.prog os Rows.fnMaParseRow.laid).forCall (fun _ _ => 0) ⟨#[], noArgs, []⟩).memory noArgs 8 = true := by kernel_rfl
theorem sized_start (os : Os) {H : Type} (enc : TypeId × Value → H) : Rows.fnMaParseSpec.sizedB enc Tryz.prog Tryz.f3 false ((World.laidAll Tryz.prog os Rows.fnMaParseRow.laid).forCall (fun _ _ => 0) ⟨#[], noArgs, []⟩).memory noArgs 8 = true := by kernel_rfl
theorem notInit : Tryz.prog.inits.idxOf? 3 = none := by kernel_rfl
theorem funcNamed : Tryz.prog.funcNamed "pub-brocade/laws.FnMaParse" = some 3 := by kernel_rfl
theorem gTab : Tryz.prog.globalNamed "internal/strconv.uint64pow10" = some 14 := by kernel_rfl
theorem gTabType : (Tryz.prog.globals[14]?).map (·.type) = some 261 := by kernel_rfl
theorem uTab : Tryz.prog.underlying 261 = some (.array 20 51) := by kernel_rfl
theorem uU64 : Tryz.prog.underlying 51 = some (.int .u64) := by kernel_rfl
theorem cU64 : Tryz.prog.cellsOf 51 = 1 := by kernel_rfl
theorem cTab : Tryz.prog.cellsOf 261 = 20 := by kernel_rfl
theorem laid_head : Rows.fnMaParseRow.laid = ("internal/strconv.uint64pow10", Lib.tabData .u64 Lib.pow10Tab) :: Rows.fnMaParseRow.laid.tail := by kernel_rfl
theorem tab_of {W : World} (h : laidMetH Tryz.prog Rows.fnMaParseRow.laid W) : Tab W := by
  rw [MakeChecks.laidMetH_plain _ _ _ (by kernel_rfl), laid_head] at h
  exact Lib.tabIs_of_head gTab gTabType uTab uU64 cU64 cTab h
end Go.Proofs.YtgodhbgnhapemaaGreatDoor
