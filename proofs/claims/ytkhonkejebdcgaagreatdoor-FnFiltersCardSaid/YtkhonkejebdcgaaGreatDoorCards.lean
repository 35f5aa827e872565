/-
  DERIVED. GIVEN WITH THE SEED: THE CARDS: each row of YtkhonkejebdcgaaGreatDoorRows.lean that lists a variable, with what it lists TIED to the program's text (the seventh form; the later family's looks); each row that meets fmt, with fmt's text TOLD by the authors' own Lean function (tested against real Go, not proved from fmt's source: count such statements apart). THE CARD IS WHAT COUNTS. Prove the row's statement (the work); the ties are given (YtkhonkejebdcgaaGreatDoorTie.lean); close each card by the builder's one call (the guide's Derived/Test/ToyasCard.lean, 'card_holds'). Laid BY PROGRAM, IN A SANDBOX (cutbox-door.mjs). By AI agents, Wed Nov 11 2026. No macro, syntax, notation, axiom, sorry.
-/
import Derived.Test.YtkhonkejebdcgaaGreatDoorRows
import GoSem.ClaimSeven
namespace Go.Proofs.YtkhonkejebdcgaaGreatDoor
namespace Rows

/-- THE TIED CARD OF 'laws.FnFilters'. -/
def fnFiltersCard : Claim7 := { stood := { row := fnFiltersRow, standIns := [], harness := (true, "678aa235d07d831df122f7249a736d2eca334b75b181fa1b37f444950a740a73"), looks := true }, kinds := [], alts := [], laidByText := true, laidKinds := [.data, .data, .data, .sentinel, .sentinel, .sentinel, .pinned, .data, .sentinel, .data, .sentinel, .sentinel, .sentinel, .sentinel, .sentinel, .sentinel, .data, .data, .sentinel, .sentinel], laidTests := true, laidLooks := .later }
def FnFiltersCardSaid : Prop := Claim7.holds Tryz.pinned (.plain (OpenSpec.ofChange fnFiltersSpec)) fnFiltersCard

/-- THE SECOND FORM's CARD OF 'laws.FnFilters'. -/
def fnFiltersUptoCard : Claim7 := { stood := { row := fnFiltersUptoRow, standIns := [], harness := (true, "678aa235d07d831df122f7249a736d2eca334b75b181fa1b37f444950a740a73"), looks := true }, kinds := [], alts := [], laidByText := true, laidKinds := [.data, .data, .data, .sentinel, .sentinel, .sentinel, .pinned, .data, .sentinel, .data, .sentinel, .sentinel, .sentinel, .sentinel, .sentinel, .sentinel, .data, .data, .sentinel, .sentinel], laidTests := true, laidLooks := .later }
def FnFiltersUptoCardSaid : Prop := Claim7.holds Tryz.pinned (.plain (OpenSpec.upto fnFiltersSpec)) fnFiltersUptoCard
end Rows
end Go.Proofs.YtkhonkejebdcgaaGreatDoor
