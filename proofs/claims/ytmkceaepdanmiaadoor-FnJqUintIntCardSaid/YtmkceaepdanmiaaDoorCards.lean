/-
  DERIVED. GIVEN WITH THE SEED: THE CARDS: each row of YtmkceaepdanmiaaDoorRows.lean that lists a variable, with what it lists TIED to the program's text (the seventh form; the later family's looks); each row that meets fmt, with fmt's text TOLD by the authors' own Lean function (tested against real Go, not proved from fmt's source: count such statements apart). THE CARD IS WHAT COUNTS. Prove the row's statement (the work); the ties are given (YtmkceaepdanmiaaDoorTie.lean); close each card by the builder's one call (the guide's Derived/Test/ToyasCard.lean, 'card_holds'). Laid BY PROGRAM, IN A SANDBOX (cutbox-door.mjs). By AI agents, Wed Nov 11 2026. No macro, syntax, notation, axiom, sorry.
-/
import Derived.Test.YtmkceaepdanmiaaDoorRows
import GoSem.ClaimSeven
namespace Go.Proofs.YtmkceaepdanmiaaDoor
namespace Rows

/-- THE TIED CARD OF 'laws.FnJqUintInt'. -/
def fnJqUintIntCard : Claim7 := { stood := { row := fnJqUintIntRow, standIns := [], harness := (true, "99b73e7fc4a151afaf67ab9b27d5b37016c5e4ffd49b585d07b9da1776de5453"), looks := true }, kinds := [], alts := [], laidByText := true, laidKinds := [.data, .data, .data, .sentinel, .sentinel, .data, .data, .sentinel, .sentinel, .sentinel, .sentinel, .sentinel, .sentinel, .sentinel, .sentinel, .sentinel, .sentinel], laidTests := true, laidLooks := .later }
def FnJqUintIntCardSaid : Prop := Claim7.holds Tryd.pinned (.plain (OpenSpec.ofChange fnJqUintIntSpec)) fnJqUintIntCard

/-- THE SECOND FORM's CARD OF 'laws.FnJqUintInt'. -/
def fnJqUintIntUptoCard : Claim7 := { stood := { row := fnJqUintIntUptoRow, standIns := [], harness := (true, "99b73e7fc4a151afaf67ab9b27d5b37016c5e4ffd49b585d07b9da1776de5453"), looks := true }, kinds := [], alts := [], laidByText := true, laidKinds := [.data, .data, .data, .sentinel, .sentinel, .data, .data, .sentinel, .sentinel, .sentinel, .sentinel, .sentinel, .sentinel, .sentinel, .sentinel, .sentinel, .sentinel], laidTests := true, laidLooks := .later }
def FnJqUintIntUptoCardSaid : Prop := Claim7.holds Tryd.pinned (.plain (OpenSpec.upto fnJqUintIntSpec)) fnJqUintIntUptoCard
end Rows
end Go.Proofs.YtmkceaepdanmiaaDoor
