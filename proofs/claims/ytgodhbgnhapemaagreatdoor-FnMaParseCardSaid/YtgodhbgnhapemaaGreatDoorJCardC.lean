/- No function of the program starts a goroutine. Conditions: none. -/
import Derived.Test.YtgodhbgnhapemaaGreatDoorRows
import GoSem.ClaimGoes
set_option linter.unusedVariables false
set_option linter.unusedSimpArgs false
/- Closed facts of the card of FnMaParse. Conditions: none. -/
namespace Go.Proofs.YtgodhbgnhapemaaGreatDoor
open Go
set_option maxHeartbeats 8000000
set_option maxRecDepth 100000
theorem noGo : Tryz.prog.funcs.toList.all (fun fn => !fn.goes) = true := by kernel_rfl
theorem goes_none {P : Program} (h : P.funcs.toList.all (fun fn => !fn.goes) = true) (f : FuncId) : P.goes f = false := by
  have h1 : ∀ fn ∈ P.funcs.toList, fn.goes = false := fun fn hf => by simpa using List.all_eq_true.1 h fn hf
  have h2 : ∀ g : FuncId, ((P.funcs[g]?).any Func.goes) = false := fun g => by
    cases hg : P.funcs[g]? with
    | none => rfl
    | some fn => exact h1 fn (by simpa using Array.mem_of_getElem? hg)
  have h3 : P.funcs.any Func.goes = false := by
    rw [← Array.any_toList]
    cases ha : P.funcs.toList.any Func.goes with
    | false => rfl
    | true => obtain ⟨fn, hf, hg⟩ := List.any_eq_true.1 ha; rw [h1 fn hf] at hg; cases hg
  unfold Program.goes
  rw [h3, Bool.and_false, Bool.or_false]
  cases ha : (P.closure f).any fun g => (P.funcs[g]?).any Func.goes with
  | false => rfl
  | true => obtain ⟨g, _, hg⟩ := List.any_eq_true.1 ha; rw [h2 g] at hg; cases hg
theorem cardG : false = Rows.fnMaParseRow.goesBy Tryz.prog := by
  have hs : Rows.fnMaParseRow.start = .entering := rfl
  have hg : Tryz.prog.goesFrom Rows.fnMaParseRow.func = false := by
    unfold Program.goesFrom
    cases Tryz.prog.funcNamed Rows.fnMaParseRow.func with
    | none => rfl
    | some f => exact goes_none noGo f
  unfold OpenClaim.goesBy Program.goesAt
  rw [hg, hs]
  rfl
end Go.Proofs.YtgodhbgnhapemaaGreatDoor
