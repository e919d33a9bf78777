/-
  DERIVED. GIVEN WITH THE SEED: THE CARDS: each row of YtpdohioobbfncaaGreatDoorRows.lean that lists a variable, with what it lists TIED to the program's text (the seventh form; the later family's looks); each row that meets fmt, with fmt's text TOLD by the authors' own Lean function (tested against real Go, not proved from fmt's source: count such statements apart). THE CARD IS WHAT COUNTS. Prove the row's statement (the work); the ties are given (YtpdohioobbfncaaGreatDoorTie.lean); close each card by the builder's one call (the guide's Derived/Test/ToyasCard.lean, 'card_holds'). Laid BY PROGRAM, IN A SANDBOX (cutbox-door.mjs). By AI agents, Wed Nov 11 2026. No macro, syntax, notation, axiom, sorry.
-/
import Derived.Test.YtpdohioobbfncaaGreatDoorRows
import GoSem.ClaimSeven
namespace Go.Proofs.YtpdohioobbfncaaGreatDoor
namespace Rows

/-- THE TIED CARD OF 'laws.FnJpWildStop'. -/
def fnJpWildStopCard : Claim7 := { stood := { row := fnJpWildStopRow, standIns := [], harness := (true, "34df24bd8330d04576894c5b32f139ac205ffb718016fa4595df0d6a8acaf6bc"), looks := true }, kinds := [], alts := [], laidByText := true, laidKinds := [.data, .data, .data, .sentinel, .sentinel, .sentinel, .data, .data, .sentinel, .sentinel, .sentinel, .sentinel, .sentinel, .sentinel, .sentinel, .sentinel], laidTests := true, laidLooks := .later }
def FnJpWildStopCardSaid : Prop := Claim7.holds Tryz.pinned (.plain (OpenSpec.ofChange fnJpWildStopSpec)) fnJpWildStopCard

/-- THE TIED CARD OF 'laws.FnJrEach'. -/
def fnJrEachCard : Claim7 := { stood := { row := fnJrEachRow, standIns := [], harness := (true, "34df24bd8330d04576894c5b32f139ac205ffb718016fa4595df0d6a8acaf6bc"), looks := true }, kinds := [], alts := [], laidByText := true, laidKinds := [.data, .data, .data, .sentinel, .sentinel, .data, .data, .sentinel, .sentinel, .sentinel, .sentinel, .sentinel, .sentinel, .sentinel, .sentinel, .sentinel, .sentinel], laidTests := true, laidLooks := .later }
def FnJrEachCardSaid : Prop := Claim7.holds Tryz.pinned (.plain (OpenSpec.ofChange fnJrEachSpec)) fnJrEachCard

/-- THE SECOND FORM's CARD OF 'laws.FnJpWildStop'. -/
def fnJpWildStopUptoCard : Claim7 := { stood := { row := fnJpWildStopUptoRow, standIns := [], harness := (true, "34df24bd8330d04576894c5b32f139ac205ffb718016fa4595df0d6a8acaf6bc"), looks := true }, kinds := [], alts := [], laidByText := true, laidKinds := [.data, .data, .data, .sentinel, .sentinel, .sentinel, .data, .data, .sentinel, .sentinel, .sentinel, .sentinel, .sentinel, .sentinel, .sentinel, .sentinel], laidTests := true, laidLooks := .later }
def FnJpWildStopUptoCardSaid : Prop := Claim7.holds Tryz.pinned (.plain (OpenSpec.upto fnJpWildStopSpec)) fnJpWildStopUptoCard

/-- THE SECOND FORM's CARD OF 'laws.FnJrEach'. -/
def fnJrEachUptoCard : Claim7 := { stood := { row := fnJrEachUptoRow, standIns := [], harness := (true, "34df24bd8330d04576894c5b32f139ac205ffb718016fa4595df0d6a8acaf6bc"), looks := true }, kinds := [], alts := [], laidByText := true, laidKinds := [.data, .data, .data, .sentinel, .sentinel, .data, .data, .sentinel, .sentinel, .sentinel, .sentinel, .sentinel, .sentinel, .sentinel, .sentinel, .sentinel, .sentinel], laidTests := true, laidLooks := .later }
def FnJrEachUptoCardSaid : Prop := Claim7.holds Tryz.pinned (.plain (OpenSpec.upto fnJrEachSpec)) fnJrEachUptoCard
end Rows
end Go.Proofs.YtpdohioobbfncaaGreatDoor
