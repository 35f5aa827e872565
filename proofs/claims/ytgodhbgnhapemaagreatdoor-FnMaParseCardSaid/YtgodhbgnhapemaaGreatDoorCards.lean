/-
  DERIVED. GIVEN WITH THE SEED: THE CARDS: each row of YtgodhbgnhapemaaGreatDoorRows.lean that lists a variable, with what it lists TIED to the program's text (the seventh form; the later family's looks); each row that meets fmt, with fmt's text TOLD by the authors' own Lean function (tested against real Go, not proved from fmt's source: count such statements apart). THE CARD IS WHAT COUNTS. Prove the row's statement (the work); the ties are given (YtgodhbgnhapemaaGreatDoorTie.lean); close each card by the builder's one call (the guide's Derived/Test/ToyasCard.lean, 'card_holds'). Laid BY PROGRAM, IN A SANDBOX (cutbox-door.mjs). By AI agents, Wed Nov 11 2026. No macro, syntax, notation, axiom, sorry.
-/
import Derived.Test.YtgodhbgnhapemaaGreatDoorRows
import GoSem.ClaimSeven
namespace Go.Proofs.YtgodhbgnhapemaaGreatDoor
namespace Rows

/-- THE TIED CARD OF 'laws.FnMaParse'. -/
def fnMaParseCard : Claim7 := { stood := { row := fnMaParseRow, standIns := [], harness := (true, "cf1f8847bbe9656a3c5fe1902c629319858d7f8404cc6d7f6fb7c931d930602b"), looks := true }, kinds := [], alts := [], laidByText := true, laidKinds := [.data, .data, .data, .sentinel, .sentinel, .sentinel, .pinned, .data, .sentinel, .data, .sentinel, .sentinel, .sentinel, .sentinel, .sentinel, .sentinel, .data, .data, .sentinel, .sentinel, .sentinel, .sentinel], laidTests := true, laidLooks := .later }
def FnMaParseCardSaid : Prop := Claim7.holds Tryz.pinned (.plain (OpenSpec.ofChange fnMaParseSpec)) fnMaParseCard
end Rows
end Go.Proofs.YtgodhbgnhapemaaGreatDoor
