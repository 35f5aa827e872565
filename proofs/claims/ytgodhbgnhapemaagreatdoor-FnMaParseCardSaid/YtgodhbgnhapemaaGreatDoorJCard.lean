/- FnMaParse: the text of a simple address is parsed to its components and bytes: the tied card. Conditions: none beyond the card's own. -/
import Derived.Test.YtgodhbgnhapemaaGreatDoorJLift
import Derived.Test.YtgodhbgnhapemaaGreatDoorOwn
import Derived.Test.YtgodhbgnhapemaaGreatDoorCards
import Derived.Test.YtgodhbgnhapemaaGreatDoorJCardA
import Derived.Test.YtgodhbgnhapemaaGreatDoorJCardC
import Derived.SevenTiedAt
set_option linter.unusedVariables false
set_option linter.unusedSimpArgs false
/- FnMaParse: the text of a simple address is parsed to its components and bytes: the tied card. Conditions: none beyond the card's own. -/
namespace Go.Proofs.YtgodhbgnhapemaaGreatDoor
open Go
theorem card_holds : Rows.FnMaParseCardSaid :=
  Claim7.holds_tied_plain_at .later [] [.data, .data, .data, .sentinel, .sentinel, .sentinel, .pinned, .data, .sentinel, .data, .sentinel, .sentinel, .sentinel, .sentinel, .sentinel, .sentinel, .data, .data, .sentinel, .sentinel, .sentinel, .sentinel] true (true, "cf1f8847bbe9656a3c5fe1902c629319858d7f8404cc6d7f6fb7c931d930602b") true
    row_holds (fun _ h => by cases h) cardW (fun _ h => by cases h) fnMaParse_row_tie rfl ⟨rfl, rfl⟩ cardM rfl
    (fun f fn hf hfn => by
      obtain rfl : f = 3 := (Option.some.inj (funcNamed.symm.trans hf)).symm
      obtain rfl : fn = Tryz.f3 := (Option.some.inj (theLaw.symm.trans hfn)).symm
      exact ⟨cardL, fun j t ht => by
        rw [theParams] at ht
        have hm : t ∈ [22] := by simpa using Array.mem_of_getElem? ht
        exact (show Tryz.prog.wantsStandIn t = false by simpa using List.all_eq_true.1 cardI t hm)⟩)
    cardG
end Go.Proofs.YtgodhbgnhapemaaGreatDoor
