/-
  DERIVED. GIVEN WITH THE SEED: THE CARDS: each row of YtegcplghgnafjaaGreatDoorRows.lean that lists a variable, with what it lists TIED to the program's text (the seventh form; the later family's looks); each row that meets fmt, with fmt's text TOLD by the authors' own Lean function (tested against real Go, not proved from fmt's source: count such statements apart). THE CARD IS WHAT COUNTS. Prove the row's statement (the work); the ties are given (YtegcplghgnafjaaGreatDoorTie.lean); close each card by the builder's one call (the guide's Derived/Test/ToyasCard.lean, 'card_holds'). Laid BY PROGRAM, IN A SANDBOX (cutbox-door.mjs). By AI agents, Wed Nov 11 2026. No macro, syntax, notation, axiom, sorry.
-/
import Derived.Test.YtegcplghgnafjaaGreatDoorRows
import GoSem.ClaimSeven
namespace Go.Proofs.YtegcplghgnafjaaGreatDoor
namespace Rows

/-- THE TIED CARD OF 'laws.FnMaSets'. -/
def fnMaSetsCard : Claim7 := { stood := { row := fnMaSetsRow, standIns := [], harness := (true, "08449535351ffd509b877f4a52930b6cefe25b42eb81309bb1d8960b51a23b9f"), looks := true }, kinds := [], alts := [], laidByText := true, laidKinds := [.data, .data, .data, .sentinel, .sentinel, .sentinel, .pinned, .data, .sentinel, .data, .sentinel, .sentinel, .sentinel, .sentinel, .sentinel, .sentinel, .data, .data, .sentinel, .sentinel], laidTests := true, laidLooks := .later }
def FnMaSetsCardSaid : Prop := Claim7.holds Tryz.pinned (.plain (OpenSpec.ofChange fnMaSetsSpec)) fnMaSetsCard

/-- THE SECOND FORM's CARD OF 'laws.FnMaSets'. -/
def fnMaSetsUptoCard : Claim7 := { stood := { row := fnMaSetsUptoRow, standIns := [], harness := (true, "08449535351ffd509b877f4a52930b6cefe25b42eb81309bb1d8960b51a23b9f"), looks := true }, kinds := [], alts := [], laidByText := true, laidKinds := [.data, .data, .data, .sentinel, .sentinel, .sentinel, .pinned, .data, .sentinel, .data, .sentinel, .sentinel, .sentinel, .sentinel, .sentinel, .sentinel, .data, .data, .sentinel, .sentinel], laidTests := true, laidLooks := .later }
def FnMaSetsUptoCardSaid : Prop := Claim7.holds Tryz.pinned (.plain (OpenSpec.upto fnMaSetsSpec)) fnMaSetsUptoCard
end Rows
end Go.Proofs.YtegcplghgnafjaaGreatDoor
