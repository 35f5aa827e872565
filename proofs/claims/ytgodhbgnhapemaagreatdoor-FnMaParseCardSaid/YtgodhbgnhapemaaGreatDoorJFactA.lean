/- Closed facts of the row of FnMaParse. Conditions: none. -/
import Derived.Test.YtgodhbgnhapemaaGreatDoorRows
import Derived.JoinedOf
set_option linter.unusedVariables false
set_option linter.unusedSimpArgs false
/- Closed facts of the row of FnMaParse. Conditions: none. -/
namespace Go.Proofs.YtgodhbgnhapemaaGreatDoor
open Go
set_option maxHeartbeats 8000000
set_option maxRecDepth 100000
theorem fact0 : (Rows.fnMaParseRow.wf (OpenSpec.ofChange Rows.fnMaParseSpec)) = true := by kernel_rfl
theorem fact1 : (laidOutB Tryz.prog) = true := by kernel_rfl
theorem fact2 : (mapsRowed Tryz.prog) = true := by kernel_rfl
theorem fact3 : (Tryz.f3.params.all (Tryz.prog.readableRec ·)) = true := by kernel_rfl
theorem fact4 : (namedTie Tryz.prog Rows.fnMaParseRow.named Rows.fnMaParseSpec.vars) = true := by kernel_rfl
theorem fact5 : ((Rows.fnMaParseRow.stops == [])) = true := by kernel_rfl
theorem fact6 : ((Tryz.prog.stops == [])) = true := by kernel_rfl
theorem fact7 : ((Rows.fnMaParseRow.knobs == [])) = true := by kernel_rfl
theorem fact8 : ((Tryz.prog.stopKnobs == [])) = true := by kernel_rfl
theorem fact13 : ((Rows.fnMaParseRow.maps == (Tryz.f3.params.toList ++ Rows.fnMaParseSpec.plain.varTypes Tryz.prog).any (Tryz.prog.mapsRec ·))) = true := by kernel_rfl
theorem fact14 : ((Rows.fnMaParseRow.ifaces == (Tryz.f3.params.toList ++ Rows.fnMaParseSpec.plain.varTypes Tryz.prog).any (Tryz.prog.ifacesRec ·))) = true := by kernel_rfl
theorem fact15 : ((Rows.fnMaParseRow.mapsOut == Tryz.prog.mapsAmong Tryz.f3.resultTypes.toList)) = true := by kernel_rfl
theorem fact16 : ((Rows.fnMaParseRow.loops == (Tryz.f3.params.toList ++ Rows.fnMaParseSpec.plain.varTypes Tryz.prog).any (Tryz.prog.loopsFrom ·))) = true := by kernel_rfl
theorem fact17 : ((Rows.fnMaParseRow.wideKeys == (Tryz.f3.params.toList ++ Rows.fnMaParseSpec.plain.varTypes Tryz.prog ++ Tryz.f3.resultTypes.toList).any (Tryz.prog.wideKeysFrom ·))) = true := by kernel_rfl
theorem fact18 : (Rows.fnMaParseSpec.vars.all (Tryz.prog.varReadable ·)) = true := by kernel_rfl
theorem fact19 : (Tryz.f3.resultTypes.all (fun t => Tryz.prog.readableRec t && decide (t < Tryz.prog.types.size))) = true := by kernel_rfl
theorem fact20 : ((Rows.fnMaParseRow.ifacesOut == Tryz.f3.resultTypes.toList.any (Tryz.prog.ifacesRec ·))) = true := by kernel_rfl
theorem fact21 : ((Rows.fnMaParseRow.loopsOut == Tryz.f3.resultTypes.toList.any (Tryz.prog.loopsFrom ·))) = true := by kernel_rfl
theorem fact22 : ((Rows.fnMaParseRow.plainKeys == Tryz.prog.plainKeys)) = true := by kernel_rfl
theorem fact23 : (Rows.fnMaParseRow.shortTexts.isNone) = true := by kernel_rfl
theorem fact26 : ((Rows.fnMaParseRow.lifted == Tryz.prog.liftsFinal)) = true := by kernel_rfl
theorem fact27 : ((Tryz.prog.make == some Rows.fnMaParseRow.make)) = true := by kernel_rfl
theorem fact28 : ((Rows.fnMaParseRow.kinds == (if Rows.fnMaParseRow.domain.isEmpty then [] else Tryz.f3.params.toList.map fun t => match Tryz.prog.underlying t with | some (.int k) => some k | _ => none))) = true := by kernel_rfl
theorem fact29 : ((Rows.fnMaParseRow.pinned == Rows.fnMaParseRow.pinnedBy)) = true := by kernel_rfl
theorem fact30 : ((Rows.fnMaParseRow.veiled == (Tryz.f3.params.toList ++ Rows.fnMaParseSpec.plain.varTypes Tryz.prog ++ Tryz.f3.resultTypes.toList).any (Tryz.prog.veiledRec ·))) = true := by kernel_rfl
theorem fact31 : (Rows.fnMaParseRow.veiledFits Tryz.prog Tryz.f3.params.toList (Tryz.f3.params.toList ++ Rows.fnMaParseSpec.plain.varTypes Tryz.prog ++ Tryz.f3.resultTypes.toList)) = true := by kernel_rfl
end Go.Proofs.YtgodhbgnhapemaaGreatDoor
