/-
  DERIVED. GIVEN WITH THE SEED: THE CARDS: each row of YtefjihdcaecmcaaDoorRows.lean that lists a variable, with what it lists TIED to the program's text (the seventh form; the later family's looks); each row that meets fmt, with fmt's text TOLD by the authors' own Lean function (tested against real Go, not proved from fmt's source: count such statements apart). THE CARD IS WHAT COUNTS. Prove the row's statement (the work); the ties are given (YtefjihdcaecmcaaDoorTie.lean); close each card by the builder's one call (the guide's Derived/Test/ToyasCard.lean, 'card_holds'). Laid BY PROGRAM, IN A SANDBOX (cutbox-door.mjs). By AI agents, Wed Nov 11 2026. No macro, syntax, notation, axiom, sorry.
-/
import Derived.Test.YtefjihdcaecmcaaDoorRows
import GoSem.ClaimSeven
namespace Go.Proofs.YtefjihdcaecmcaaDoor
namespace Rows

/-- THE TIED CARD OF 'laws.FnJpObjectNone'. -/
def fnJpObjectNoneCard : Claim7 := { stood := { row := fnJpObjectNoneRow, standIns := [], harness := (true, "54e0cbde4458b3a4941eced5c50e4d1d890108887943ed94591f3df15dfb30b1"), looks := true }, kinds := [], alts := [], laidByText := true, laidKinds := [.data, .data, .data, .sentinel, .sentinel, .data, .data, .sentinel, .sentinel, .sentinel, .sentinel, .sentinel, .sentinel, .sentinel], laidTests := true, laidLooks := .later }
def FnJpObjectNoneCardSaid : Prop := Claim7.holds Tryd.pinned (.plain (OpenSpec.ofChange fnJpObjectNoneSpec)) fnJpObjectNoneCard

/-- THE SECOND FORM's CARD OF 'laws.FnJpObjectNone'. -/
def fnJpObjectNoneUptoCard : Claim7 := { stood := { row := fnJpObjectNoneUptoRow, standIns := [], harness := (true, "54e0cbde4458b3a4941eced5c50e4d1d890108887943ed94591f3df15dfb30b1"), looks := true }, kinds := [], alts := [], laidByText := true, laidKinds := [.data, .data, .data, .sentinel, .sentinel, .data, .data, .sentinel, .sentinel, .sentinel, .sentinel, .sentinel, .sentinel, .sentinel], laidTests := true, laidLooks := .later }
def FnJpObjectNoneUptoCardSaid : Prop := Claim7.holds Tryd.pinned (.plain (OpenSpec.upto fnJpObjectNoneSpec)) fnJpObjectNoneUptoCard
end Rows
end Go.Proofs.YtefjihdcaecmcaaDoor
