/- Closed facts of the row of FnFilters. Conditions: none. -/
import Derived.Test.YtkhonkejebdcgaaGreatDoorRows
import Derived.JoinedOf
/- Closed facts of the row of FnFilters. Conditions: none. -/
namespace Go.Proofs.YtkhonkejebdcgaaGreatDoor
open Go
set_option maxHeartbeats 8000000
set_option maxRecDepth 100000
theorem fact0 : (Rows.fnFiltersRow.wf (OpenSpec.ofChange Rows.fnFiltersSpec)) = true := by kernel_rfl
theorem fact1 : (laidOutB Tryz.prog) = true := by kernel_rfl
theorem fact2 : (mapsRowed Tryz.prog) = true := by kernel_rfl
theorem fact3 : (Tryz.f3.params.all (Tryz.prog.readableRec ·)) = true := by kernel_rfl
theorem fact4 : (namedTie Tryz.prog Rows.fnFiltersRow.named Rows.fnFiltersSpec.vars) = true := by kernel_rfl
theorem fact5 : ((Rows.fnFiltersRow.stops == [])) = true := by kernel_rfl
theorem fact6 : ((Tryz.prog.stops == [])) = true := by kernel_rfl
theorem fact7 : ((Rows.fnFiltersRow.knobs == [])) = true := by kernel_rfl
theorem fact8 : ((Tryz.prog.stopKnobs == [])) = true := by kernel_rfl
theorem fact13 : ((Rows.fnFiltersRow.maps == (Tryz.f3.params.toList ++ Rows.fnFiltersSpec.plain.varTypes Tryz.prog).any (Tryz.prog.mapsRec ·))) = true := by kernel_rfl
theorem fact14 : ((Rows.fnFiltersRow.ifaces == (Tryz.f3.params.toList ++ Rows.fnFiltersSpec.plain.varTypes Tryz.prog).any (Tryz.prog.ifacesRec ·))) = true := by kernel_rfl
theorem fact15 : ((Rows.fnFiltersRow.mapsOut == Tryz.prog.mapsAmong Tryz.f3.resultTypes.toList)) = true := by kernel_rfl
theorem fact16 : ((Rows.fnFiltersRow.loops == (Tryz.f3.params.toList ++ Rows.fnFiltersSpec.plain.varTypes Tryz.prog).any (Tryz.prog.loopsFrom ·))) = true := by kernel_rfl
theorem fact17 : ((Rows.fnFiltersRow.wideKeys == (Tryz.f3.params.toList ++ Rows.fnFiltersSpec.plain.varTypes Tryz.prog ++ Tryz.f3.resultTypes.toList).any (Tryz.prog.wideKeysFrom ·))) = true := by kernel_rfl
theorem fact18 : (Rows.fnFiltersSpec.vars.all (Tryz.prog.varReadable ·)) = true := by kernel_rfl
theorem fact19 : (Tryz.f3.resultTypes.all (fun t => Tryz.prog.readableRec t && decide (t < Tryz.prog.types.size))) = true := by kernel_rfl
theorem fact20 : ((Rows.fnFiltersRow.ifacesOut == Tryz.f3.resultTypes.toList.any (Tryz.prog.ifacesRec ·))) = true := by kernel_rfl
theorem fact21 : ((Rows.fnFiltersRow.loopsOut == Tryz.f3.resultTypes.toList.any (Tryz.prog.loopsFrom ·))) = true := by kernel_rfl
theorem fact22 : ((Rows.fnFiltersRow.plainKeys == Tryz.prog.plainKeys)) = true := by kernel_rfl
theorem fact23 : (Rows.fnFiltersRow.shortTexts.isNone) = true := by kernel_rfl
theorem fact26 : ((Rows.fnFiltersRow.lifted == Tryz.prog.liftsFinal)) = true := by kernel_rfl
theorem fact27 : ((Tryz.prog.make == some Rows.fnFiltersRow.make)) = true := by kernel_rfl
theorem fact28 : ((Rows.fnFiltersRow.kinds == (if Rows.fnFiltersRow.domain.isEmpty then [] else Tryz.f3.params.toList.map fun t => match Tryz.prog.underlying t with | some (.int k) => some k | _ => none))) = true := by kernel_rfl
theorem fact29 : ((Rows.fnFiltersRow.pinned == Rows.fnFiltersRow.pinnedBy)) = true := by kernel_rfl
theorem fact30 : ((Rows.fnFiltersRow.veiled == (Tryz.f3.params.toList ++ Rows.fnFiltersSpec.plain.varTypes Tryz.prog ++ Tryz.f3.resultTypes.toList).any (Tryz.prog.veiledRec ·))) = true := by kernel_rfl
theorem fact31 : (Rows.fnFiltersRow.veiledFits Tryz.prog Tryz.f3.params.toList (Tryz.f3.params.toList ++ Rows.fnFiltersSpec.plain.varTypes Tryz.prog ++ Tryz.f3.resultTypes.toList)) = true := by kernel_rfl
end Go.Proofs.YtkhonkejebdcgaaGreatDoor
