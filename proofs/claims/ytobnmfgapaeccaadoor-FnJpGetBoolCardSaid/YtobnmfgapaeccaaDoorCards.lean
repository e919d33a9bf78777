/-
  DERIVED. GIVEN WITH THE SEED: THE CARDS: each row of YtobnmfgapaeccaaDoorRows.lean that lists a variable, with what it lists TIED to the program's text (the seventh form; the later family's looks); each row that meets fmt, with fmt's text TOLD by the authors' own Lean function (tested against real Go, not proved from fmt's source: count such statements apart). THE CARD IS WHAT COUNTS. Prove the row's statement (the work); the ties are given (YtobnmfgapaeccaaDoorTie.lean); close each card by the builder's one call (the guide's Derived/Test/ToyasCard.lean, 'card_holds'). Laid BY PROGRAM, IN A SANDBOX (cutbox-door.mjs). By AI agents, Wed Nov 11 2026. No macro, syntax, notation, axiom, sorry.
-/
import Derived.Test.YtobnmfgapaeccaaDoorRows
import GoSem.ClaimSeven
namespace Go.Proofs.YtobnmfgapaeccaaDoor
namespace Rows

/-- THE TIED CARD OF 'laws.FnJpGetBool'. -/
def fnJpGetBoolCard : Claim7 := { stood := { row := fnJpGetBoolRow, standIns := [], harness := (true, "c9bc0d0073cb96d67f2a1ac9c91f55c06875948d11bc6b334d4b46b1a7ccd801"), looks := true }, kinds := [], alts := [], laidByText := true, laidKinds := [.data, .data, .data, .sentinel, .sentinel, .data, .data, .sentinel, .sentinel, .sentinel, .sentinel, .sentinel, .sentinel, .sentinel, .sentinel, .sentinel], laidTests := true, laidLooks := .later }
def FnJpGetBoolCardSaid : Prop := Claim7.holds Tryd.pinned (.plain (OpenSpec.ofChange fnJpGetBoolSpec)) fnJpGetBoolCard

/-- THE SECOND FORM's CARD OF 'laws.FnJpGetBool'. -/
def fnJpGetBoolUptoCard : Claim7 := { stood := { row := fnJpGetBoolUptoRow, standIns := [], harness := (true, "c9bc0d0073cb96d67f2a1ac9c91f55c06875948d11bc6b334d4b46b1a7ccd801"), looks := true }, kinds := [], alts := [], laidByText := true, laidKinds := [.data, .data, .data, .sentinel, .sentinel, .data, .data, .sentinel, .sentinel, .sentinel, .sentinel, .sentinel, .sentinel, .sentinel, .sentinel, .sentinel], laidTests := true, laidLooks := .later }
def FnJpGetBoolUptoCardSaid : Prop := Claim7.holds Tryd.pinned (.plain (OpenSpec.upto fnJpGetBoolSpec)) fnJpGetBoolUptoCard
end Rows
end Go.Proofs.YtobnmfgapaeccaaDoor
