/- FnFilters: a script over filters does what a list of rules does: the tied card. Conditions: none beyond the card's own. -/
import Derived.Test.YtkhonkejebdcgaaGreatDoorJLift
import Derived.Test.YtkhonkejebdcgaaGreatDoorOwn
import Derived.Test.YtkhonkejebdcgaaGreatDoorCards
import Derived.Test.YtkhonkejebdcgaaGreatDoorJCardA
import Derived.Test.YtkhonkejebdcgaaGreatDoorJCardC
import Derived.SevenTiedAt
/- FnFilters: a script over filters does what a list of rules does: the tied card. Conditions: none beyond the card's own. -/
namespace Go.Proofs.YtkhonkejebdcgaaGreatDoor
open Go
theorem card_holds : Rows.FnFiltersCardSaid :=
  Claim7.holds_tied_plain_at .later [] [.data, .data, .data, .sentinel, .sentinel, .sentinel, .pinned, .data, .sentinel, .data, .sentinel, .sentinel, .sentinel, .sentinel, .sentinel, .sentinel, .data, .data, .sentinel, .sentinel] true (true, "678aa235d07d831df122f7249a736d2eca334b75b181fa1b37f444950a740a73") true
    row_holds (fun _ h => by cases h) cardW (fun _ h => by cases h) fnFilters_row_tie rfl ⟨rfl, rfl⟩ cardM rfl
    (fun f fn hf hfn => by
      obtain rfl : f = 3 := (Option.some.inj (funcNamed.symm.trans hf)).symm
      obtain rfl : fn = Tryz.f3 := (Option.some.inj (theLaw.symm.trans hfn)).symm
      exact ⟨cardL, fun j t ht => by
        rw [theParams] at ht
        have hm : t ∈ [22] := by simpa using Array.mem_of_getElem? ht
        exact (show Tryz.prog.wantsStandIn t = false by simpa using List.all_eq_true.1 cardI t hm)⟩)
    cardG
end Go.Proofs.YtkhonkejebdcgaaGreatDoor
