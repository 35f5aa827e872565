/- FnMaSets: Contains, Unique and FilterAddrs are those of lists: the tied card. Conditions: none beyond the card's own; of net.v4InV6Prefix it speaks for every value. -/
import Derived.Test.YtegcplghgnafjaaGreatDoorJLift
import Derived.Test.YtegcplghgnafjaaGreatDoorOwn
import Derived.Test.YtegcplghgnafjaaGreatDoorCards
import Derived.Test.YtegcplghgnafjaaGreatDoorJCardA
import Derived.Test.YtegcplghgnafjaaGreatDoorJCardC
import Derived.SevenTiedAt
/- FnMaSets: Contains, Unique and FilterAddrs are those of lists: the tied card. Conditions: none beyond the card's own; of net.v4InV6Prefix it speaks for every value. -/
namespace Go.Proofs.YtegcplghgnafjaaGreatDoor
open Go
theorem card_holds : Rows.FnMaSetsCardSaid :=
  Claim7.holds_tied_plain_at .later [] [.data, .data, .data, .sentinel, .sentinel, .sentinel, .pinned, .data, .sentinel, .data, .sentinel, .sentinel, .sentinel, .sentinel, .sentinel, .sentinel, .data, .data, .sentinel, .sentinel] true (true, "08449535351ffd509b877f4a52930b6cefe25b42eb81309bb1d8960b51a23b9f") true
    row_holds (fun _ h => by cases h) cardW (fun _ h => by cases h) fnMaSets_row_tie rfl ⟨rfl, rfl⟩ cardM rfl
    (fun f fn hf hfn => by
      obtain rfl : f = 3 := (Option.some.inj (funcNamed.symm.trans hf)).symm
      obtain rfl : fn = Tryz.f3 := (Option.some.inj (theLaw.symm.trans hfn)).symm
      exact ⟨cardL, fun j t ht => by
        rw [theParams] at ht
        have hm : t ∈ [22, 23, 24] := by simpa using Array.mem_of_getElem? ht
        exact (show Tryz.prog.wantsStandIn t = false by simpa using List.all_eq_true.1 cardI t hm)⟩)
    cardG
end Go.Proofs.YtegcplghgnafjaaGreatDoor
