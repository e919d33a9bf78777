/-
  DERIVED. GIVEN WITH THE SEED: THE CARDS: each row of YtifdgmiebibccaaDoorRows.lean that lists a variable, with what it lists TIED to the program's text (the seventh form; the later family's looks); each row that meets fmt, with fmt's text TOLD by the authors' own Lean function (tested against real Go, not proved from fmt's source: count such statements apart). THE CARD IS WHAT COUNTS. Prove the row's statement (the work); the ties are given (YtifdgmiebibccaaDoorTie.lean); close each card by the builder's one call (the guide's Derived/Test/ToyasCard.lean, 'card_holds'). Laid BY PROGRAM, IN A SANDBOX (cutbox-door.mjs). By AI agents, Wed Nov 11 2026. No macro, syntax, notation, axiom, sorry.
-/
import Derived.Test.YtifdgmiebibccaaDoorRows
import GoSem.ClaimSeven
namespace Go.Proofs.YtifdgmiebibccaaDoor
namespace Rows

/-- THE TIED CARD OF 'laws.FnJpParseStringRune'. -/
def fnJpParseStringRuneCard : Claim7 := { stood := { row := fnJpParseStringRuneRow, standIns := [], harness := (true, "c44fb5ec3be939a4b6706f0d056e6ff470d0f9a1fb2ef0a41fe778925f4b2c12"), looks := false }, kinds := [], alts := [], laidByText := true, laidKinds := [.data, .data, .sentinel, .sentinel], laidTests := true, laidLooks := .later }
def FnJpParseStringRuneCardSaid : Prop := Claim7.holds Tryd.pinned (.plain (OpenSpec.ofChange fnJpParseStringRuneSpec)) fnJpParseStringRuneCard

/-- THE SECOND FORM's CARD OF 'laws.FnJpParseStringRune'. -/
def fnJpParseStringRuneUptoCard : Claim7 := { stood := { row := fnJpParseStringRuneUptoRow, standIns := [], harness := (true, "c44fb5ec3be939a4b6706f0d056e6ff470d0f9a1fb2ef0a41fe778925f4b2c12"), looks := false }, kinds := [], alts := [], laidByText := true, laidKinds := [.data, .data, .sentinel, .sentinel], laidTests := true, laidLooks := .later }
def FnJpParseStringRuneUptoCardSaid : Prop := Claim7.holds Tryd.pinned (.plain (OpenSpec.upto fnJpParseStringRuneSpec)) fnJpParseStringRuneUptoCard
end Rows
end Go.Proofs.YtifdgmiebibccaaDoor
