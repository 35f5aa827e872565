/- Closed facts of the row of FnMaSets. Conditions: none. -/
import Derived.Test.YtegcplghgnafjaaGreatDoorRows
import Derived.JoinedOf
/- Closed facts of the row of FnMaSets. Conditions: none. -/
namespace Go.Proofs.YtegcplghgnafjaaGreatDoor
open Go
set_option maxHeartbeats 8000000
set_option maxRecDepth 100000
theorem fact0 : (Rows.fnMaSetsRow.wf (OpenSpec.ofChange Rows.fnMaSetsSpec)) = true := by kernel_rfl
theorem fact1 : (laidOutB Tryz.prog) = true := by kernel_rfl
theorem fact2 : (mapsRowed Tryz.prog) = true := by kernel_rfl
theorem fact3 : (Tryz.f3.params.all (Tryz.prog.readableRec ·)) = true := by kernel_rfl
theorem fact4 : (namedTie Tryz.prog Rows.fnMaSetsRow.named Rows.fnMaSetsSpec.vars) = true := by kernel_rfl
theorem fact5 : ((Rows.fnMaSetsRow.stops == [])) = true := by kernel_rfl
theorem fact6 : ((Tryz.prog.stops == [])) = true := by kernel_rfl
theorem fact7 : ((Rows.fnMaSetsRow.knobs == [])) = true := by kernel_rfl
theorem fact8 : ((Tryz.prog.stopKnobs == [])) = true := by kernel_rfl
theorem fact13 : ((Rows.fnMaSetsRow.maps == (Tryz.f3.params.toList ++ Rows.fnMaSetsSpec.plain.varTypes Tryz.prog).any (Tryz.prog.mapsRec ·))) = true := by kernel_rfl
theorem fact14 : ((Rows.fnMaSetsRow.ifaces == (Tryz.f3.params.toList ++ Rows.fnMaSetsSpec.plain.varTypes Tryz.prog).any (Tryz.prog.ifacesRec ·))) = true := by kernel_rfl
theorem fact15 : ((Rows.fnMaSetsRow.mapsOut == Tryz.prog.mapsAmong Tryz.f3.resultTypes.toList)) = true := by kernel_rfl
theorem fact16 : ((Rows.fnMaSetsRow.loops == (Tryz.f3.params.toList ++ Rows.fnMaSetsSpec.plain.varTypes Tryz.prog).any (Tryz.prog.loopsFrom ·))) = true := by kernel_rfl
theorem fact17 : ((Rows.fnMaSetsRow.wideKeys == (Tryz.f3.params.toList ++ Rows.fnMaSetsSpec.plain.varTypes Tryz.prog ++ Tryz.f3.resultTypes.toList).any (Tryz.prog.wideKeysFrom ·))) = true := by kernel_rfl
theorem fact18 : (Rows.fnMaSetsSpec.vars.all (Tryz.prog.varReadable ·)) = true := by kernel_rfl
theorem fact19 : (Tryz.f3.resultTypes.all (fun t => Tryz.prog.readableRec t && decide (t < Tryz.prog.types.size))) = true := by kernel_rfl
theorem fact20 : ((Rows.fnMaSetsRow.ifacesOut == Tryz.f3.resultTypes.toList.any (Tryz.prog.ifacesRec ·))) = true := by kernel_rfl
theorem fact21 : ((Rows.fnMaSetsRow.loopsOut == Tryz.f3.resultTypes.toList.any (Tryz.prog.loopsFrom ·))) = true := by kernel_rfl
theorem fact22 : ((Rows.fnMaSetsRow.plainKeys == Tryz.prog.plainKeys)) = true := by kernel_rfl
theorem fact23 : (Rows.fnMaSetsRow.shortTexts.isNone) = true := by kernel_rfl
theorem fact26 : ((Rows.fnMaSetsRow.lifted == Tryz.prog.liftsFinal)) = true := by kernel_rfl
theorem fact27 : ((Tryz.prog.make == some Rows.fnMaSetsRow.make)) = true := by kernel_rfl
theorem fact28 : ((Rows.fnMaSetsRow.kinds == (if Rows.fnMaSetsRow.domain.isEmpty then [] else Tryz.f3.params.toList.map fun t => match Tryz.prog.underlying t with | some (.int k) => some k | _ => none))) = true := by kernel_rfl
theorem fact29 : ((Rows.fnMaSetsRow.pinned == Rows.fnMaSetsRow.pinnedBy)) = true := by kernel_rfl
theorem fact30 : ((Rows.fnMaSetsRow.veiled == (Tryz.f3.params.toList ++ Rows.fnMaSetsSpec.plain.varTypes Tryz.prog ++ Tryz.f3.resultTypes.toList).any (Tryz.prog.veiledRec ·))) = true := by kernel_rfl
theorem fact31 : (Rows.fnMaSetsRow.veiledFits Tryz.prog Tryz.f3.params.toList (Tryz.f3.params.toList ++ Rows.fnMaSetsSpec.plain.varTypes Tryz.prog ++ Tryz.f3.resultTypes.toList)) = true := by kernel_rfl
end Go.Proofs.YtegcplghgnafjaaGreatDoor
