/- The row of FnMaParse: wherever its variables are laid, the call returns true, and the argument reads as it did; the clocks are let go. Conditions: none beyond the row's own. -/
import Derived.Test.YtgodhbgnhapemaaGreatDoorJFactA
import Derived.Test.YtgodhbgnhapemaaGreatDoorJFactB
import Derived.Test.YtgodhbgnhapemaaGreatDoorJFactC
import Derived.Test.YtgodhbgnhapemaaGreatDoorJFactD
import Derived.Test.YtgodhbgnhapemaaGreatDoorJFactE
import Derived.Test.YtgodhbgnhapemaaGreatDoorJFactF
import Derived.Test.YtgodhbgnhapemaaGreatDoorRows
import Derived.Test.YtgodhbgnhapemaaGreatDoorJLaw
import Derived.Test.YtgodhbgnhapemaaGreatDoorJOpen
import Derived.Test.YtgodhbgnhapemaaGreatDoorJStart
import Derived.Stop.Joined
import Derived.SizedLaws
import Derived.Clock
set_option linter.unusedVariables false
set_option linter.unusedSimpArgs false
/- All closed facts of the row of FnMaParse together. Conditions: none. -/
namespace Go.Proofs.YtgodhbgnhapemaaGreatDoor
open Go
set_option maxRecDepth 100000
theorem andI {a b : Bool} (h : a = true) (k : b = true) : (a && b) = true := by rw [h, k]; rfl
theorem facts : joinedFacts Tryz.prog 3 Tryz.f3 Rows.fnMaParseSpec Rows.fnMaParseRow = true := by
  unfold joinedFacts
  exact (andI (andI (andI (andI (andI (andI (andI (andI (andI (andI (andI (andI (andI (andI (andI (andI (andI (andI (andI (andI (andI (andI (andI (andI (andI (andI (andI (andI (andI (andI (andI fact0 fact1) fact2) fact3) fact4) fact5) fact6) fact7) fact8) fact9) fact10) fact11) fact12) fact13) fact14) fact15) fact16) fact17) fact18) fact19) fact20) fact21) fact22) fact23) fact24) fact25) fact26) fact27) fact28) fact29) fact30) fact31)
end Go.Proofs.YtgodhbgnhapemaaGreatDoor
/- The row of FnMaParse: wherever its variables are laid, the call returns true, and each argument reads as it did. Conditions: none beyond the row's own. -/
namespace Go.Proofs.YtgodhbgnhapemaaGreatDoor
open Go Go.SX Go.ChangeShapes Go.WideShapes Go.RowKit
set_option maxHeartbeats 8000000
set_option maxRecDepth 100000

theorem theLaw : Tryz.prog.funcs[3]? = some Tryz.f3 := Tryz.func3
theorem theParams : Tryz.f3.params = #[22] := by kernel_rfl
theorem theResults : Tryz.f3.resultTypes = #[4] := by kernel_rfl
theorem uBool : Tryz.prog.underlying 4 = some .bool := by kernel_rfl
/-- What the call leaves below the heap's old size is as it was. -/
theorem below_of {w w' : World} (h : Ext [] w w') : Below w.heap.size w w' := ⟨h.os, h.tape, h.output, h.size, fun k hk => h.block k hk (by simp)⟩
/-- The post, out of what the walk says. -/
theorem post_said {H : Type} {enc : TypeId × Value → H} {W W' : World} {v0 : Value} {d0 : DataW H} {p0 : List MemPlace} (hx : Ext [] W W')
    (hW : DataW.Whole enc Tryz.prog Tryz.f3.params.toList Rows.fnMaParseSpec.vars false W #[v0].toList [d0] [] p0)
    (h0 : DataW.Trod enc Tryz.prog W 0 (fun _ => true) true 22 v0 d0 p0) :
    Rows.fnMaParseSpec.post enc Tryz.prog Tryz.f3 false true false false W #[v0] (.bool true) W' := by
  have hb := below_of hx
  have hlt : ∀ x ∈ p0, x.block < W.heap.size := fun x hx => hW.lt x hx
  refine ⟨[d0], [], p0, [], p0, [], hW, ?_, ?_, rfl, hb.frame _, fun h => by cases h⟩
  · rw [theResults]
    exact trodAll_mk1 (shut_bool uBool true)
  · rw [theParams]
    exact trodAll_mk1 (Below.trod laidOut (by kernel_rfl) (of_decide_eq_true (by kernel_rfl)) h0 hb fun x hx => hlt x hx)
theorem lifted (os : Os) (started : os.Started) (H : Type) (enc : TypeId × Value → H) (F : Stop.Interp) :
    ReturnsInHanded { calm := true } Tryz.checked os 3 .any (fun w args => (Rows.fnMaParseSpec.pre enc Tryz.prog Tryz.f3 [] false w args ∧ laidMetH Tryz.prog Rows.fnMaParseRow.laid w) ∧ sizedMet enc Tryz.prog Tryz.f3 (OpenSpec.ofChange Rows.fnMaParseSpec) false w args)
      ((OpenSpec.ofChange Rows.fnMaParseSpec).postWith enc Tryz.prog Tryz.f3 F (outsideKept [.timePasses]) false true false) := by
  refine Clock.returns_of_change (C := Tryz.checked) (X := fun w _ => laidMetH Tryz.prog Rows.fnMaParseRow.laid w) (fun _ _ _ hh h => h.of_heap hh) ownKnobs started notInit theLaw
    (Clock.witness_at (enc := enc) (C := Tryz.checked) (X := fun w _ => laidMetH Tryz.prog Rows.fnMaParseRow.laid w) (World.laidAll Tryz.prog os Rows.fnMaParseRow.laid) noArgs 8 (World.laidAll_os _ _ _)
      (shaped_start os) (okWide_start os) (pre_start os enc) (sized_start os enc) (laid_start os)) ?_
  intro W base args ds gs before hval0 hW _ hsz0 hLaid _
  have hT : Tab W := tab_of hLaid
  have hval : ∀ (j : Nat) t v, Tryz.f3.params[j]? = some t → args[j]? = some v → Value.okWide Tryz.prog W .any base t v := hval0
  have hsz : (DataW.weightsEach Tryz.prog (Tryz.f3.params.toList ++ Rows.fnMaParseSpec.plain.varTypes Tryz.prog) (ds ++ gs)).all (· ≤ reachBytes) = true := hsz0
  have hW' := hW
  obtain ⟨p, q, hA0, hV, rfl, hfz, hnd⟩ := hW
  have hA : DataW.TrodAll enc Tryz.prog W 0 (fun _ => true) true Tryz.f3.params.toList args.toList ds p := hA0
  rw [theParams] at hA hval hsz
  obtain ⟨v0, d0, rfl, rfl, h0⟩ := trodAll_one hA
  obtain ⟨rfl, rfl⟩ := trodVars_none hV
  clear hA0 hval0 hsz0
  simp only [List.append_nil] at hW'
  have light : ∀ (j : Nat) (t : TypeId) (d : DataW H), #[22].toList[j]? = some t → [d0][j]? = some d → Light t d := fun j t d ht hd n hn =>
    by simpa using List.all_eq_true.1 hsz n (DataW.weights_mem_each (j := j) (t := t) (d := d) (by
      rw [List.getElem?_append_left (List.getElem?_eq_some_iff.1 ht).1]; exact ht) (by
      rw [List.getElem?_append_left (List.getElem?_eq_some_iff.1 hd).1]; exact hd) n hn)
  obtain ⟨a0, n0, c0, rfl⟩ := okWide_slice uComps (hval 0 _ v0 rfl rfl)
  obtain ⟨f0, k0⟩ := h0
  obtain ⟨b0, L, e0, q0, bL, hL⟩ := open_comps k0 (light 0 _ d0 rfl rfl)
  have r0 : [Value.slice a0 n0 c0] = [Value.slice b0 L.length e0] := q0
  simp only [List.cons.injEq, Value.slice.injEq, and_true] at r0
  obtain ⟨rfl, rfl, rfl⟩ := r0
  refine (law L a0 c0 W hT hL bL).mono fun e W' ⟨v, he, hext, hv⟩ => ?_
  subst he; subst hv
  have hsame : ({ W' with os := W.os } : World) = W' := by rw [← hext.os]
  exact ⟨_, rfl, by rw [hsame]; exact post_said hext hW' ⟨f0, k0⟩, by rw [hext.os]; exact Clock.Later.refl _⟩
theorem row_holds : Rows.FnMaParseSaid :=
  Clock.holds_of_wide_time 3 Tryz.f3 rfl rfl rfl rfl rfl rfl rfl ⟨rfl, rfl, rfl, rfl, rfl⟩ rfl rfl rfl rfl rfl funcNamed theLaw facts
    (of_decide_eq_true (by kernel_rfl)) (by unfold Func.isWrapper; first | (rw [if_pos (by decide +kernel)]; kernel_rfl) | (rw [if_neg (by decide +kernel)]; exact ⟨rfl, rfl⟩))
    (fun os started H enc _ F => lifted os started H enc F)
end Go.Proofs.YtgodhbgnhapemaaGreatDoor
