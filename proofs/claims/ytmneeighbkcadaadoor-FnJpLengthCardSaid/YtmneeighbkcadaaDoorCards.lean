/-
  DERIVED. GIVEN WITH THE SEED: THE CARDS: each row of YtmneeighbkcadaaDoorRows.lean that lists a variable, with what it lists TIED to the program's text (the seventh form; the later family's looks); each row that meets fmt, with fmt's text TOLD by the authors' own Lean function (tested against real Go, not proved from fmt's source: count such statements apart). THE CARD IS WHAT COUNTS. Prove the row's statement (the work); the ties are given (YtmneeighbkcadaaDoorTie.lean); close each card by the builder's one call (the guide's Derived/Test/ToyasCard.lean, 'card_holds'). Laid BY PROGRAM, IN A SANDBOX (cutbox-door.mjs). By AI agents, Wed Nov 11 2026. No macro, syntax, notation, axiom, sorry.
-/
import Derived.Test.YtmneeighbkcadaaDoorRows
import GoSem.ClaimSeven
namespace Go.Proofs.YtmneeighbkcadaaDoor
namespace Rows

/-- THE TIED CARD OF 'laws.FnJpLength'. -/
def fnJpLengthCard : Claim7 := { stood := { row := fnJpLengthRow, standIns := [], harness := (true, "63f7e1f334b12005efb05a26d3939230d8bf4387a8dcadf68b4eb040ccbf329c"), looks := false }, kinds := [], alts := [], laidByText := true, laidKinds := [.data, .sentinel, .sentinel], laidTests := true, laidLooks := .later }
def FnJpLengthCardSaid : Prop := Claim7.holds Tryd.pinned (.plain (OpenSpec.ofChange fnJpLengthSpec)) fnJpLengthCard

/-- THE SECOND FORM's CARD OF 'laws.FnJpLength'. -/
def fnJpLengthUptoCard : Claim7 := { stood := { row := fnJpLengthUptoRow, standIns := [], harness := (true, "63f7e1f334b12005efb05a26d3939230d8bf4387a8dcadf68b4eb040ccbf329c"), looks := false }, kinds := [], alts := [], laidByText := true, laidKinds := [.data, .sentinel, .sentinel], laidTests := true, laidLooks := .later }
def FnJpLengthUptoCardSaid : Prop := Claim7.holds Tryd.pinned (.plain (OpenSpec.upto fnJpLengthSpec)) fnJpLengthUptoCard
end Rows
end Go.Proofs.YtmneeighbkcadaaDoor
