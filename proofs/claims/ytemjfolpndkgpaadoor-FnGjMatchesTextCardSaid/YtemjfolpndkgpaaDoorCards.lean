/-
  DERIVED. GIVEN WITH THE SEED: THE CARDS: each row of YtemjfolpndkgpaaDoorRows.lean that lists a variable, with what it lists TIED to the program's text (the seventh form; the later family's looks); each row that meets fmt, with fmt's text TOLD by the authors' own Lean function (tested against real Go, not proved from fmt's source: count such statements apart). THE CARD IS WHAT COUNTS. Prove the row's statement (the work); the ties are given (YtemjfolpndkgpaaDoorTie.lean); close each card by the builder's one call (the guide's Derived/Test/ToyasCard.lean, 'card_holds'). Laid BY PROGRAM, IN A SANDBOX (cutbox-door.mjs). By AI agents, Wed Nov 11 2026. No macro, syntax, notation, axiom, sorry.
-/
import Derived.Test.YtemjfolpndkgpaaDoorRows
import GoSem.ClaimSeven
namespace Go.Proofs.YtemjfolpndkgpaaDoor
namespace Rows

/-- THE TIED CARD OF 'laws.FnGjMatchesText'. -/
def fnGjMatchesTextCard : Claim7 := { stood := { row := fnGjMatchesTextRow, standIns := [], harness := (true, "8ed95044da49615ca291c27bd8d57941819900c0f73a5b42d1115fc52860fabe"), looks := true }, kinds := [], alts := [], laidByText := true, laidKinds := [.data, .data, .widerDeep, .widerDeep, .data, .data, .data, .data, .data, .data, .sentinel, .sentinel, .pinned, .pinned, .pinned], laidTests := true, laidLooks := .later }
def FnGjMatchesTextCardSaid : Prop := Claim7.holds Tryd.pinned (.plain (OpenSpec.ofChange fnGjMatchesTextSpec)) fnGjMatchesTextCard

/-- THE SECOND FORM's CARD OF 'laws.FnGjMatchesText'. -/
def fnGjMatchesTextUptoCard : Claim7 := { stood := { row := fnGjMatchesTextUptoRow, standIns := [], harness := (true, "8ed95044da49615ca291c27bd8d57941819900c0f73a5b42d1115fc52860fabe"), looks := true }, kinds := [], alts := [], laidByText := true, laidKinds := [.data, .data, .widerDeep, .widerDeep, .data, .data, .data, .data, .data, .data, .sentinel, .sentinel, .pinned, .pinned, .pinned], laidTests := true, laidLooks := .later }
def FnGjMatchesTextUptoCardSaid : Prop := Claim7.holds Tryd.pinned (.plain (OpenSpec.upto fnGjMatchesTextSpec)) fnGjMatchesTextUptoCard
end Rows
end Go.Proofs.YtemjfolpndkgpaaDoor
