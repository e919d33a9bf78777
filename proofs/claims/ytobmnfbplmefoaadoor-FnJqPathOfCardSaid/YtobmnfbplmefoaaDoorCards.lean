/-
  DERIVED. GIVEN WITH THE SEED: THE CARDS: each row of YtobmnfbplmefoaaDoorRows.lean that lists a variable, with what it lists TIED to the program's text (the seventh form; the later family's looks); each row that meets fmt, with fmt's text TOLD by the authors' own Lean function (tested against real Go, not proved from fmt's source: count such statements apart). THE CARD IS WHAT COUNTS. Prove the row's statement (the work); the ties are given (YtobmnfbplmefoaaDoorTie.lean); close each card by the builder's one call (the guide's Derived/Test/ToyasCard.lean, 'card_holds'). Laid BY PROGRAM, IN A SANDBOX (cutbox-door.mjs). By AI agents, Wed Nov 11 2026. No macro, syntax, notation, axiom, sorry.
-/
import Derived.Test.YtobmnfbplmefoaaDoorRows
import GoSem.ClaimSeven
namespace Go.Proofs.YtobmnfbplmefoaaDoor
namespace Rows

/-- THE TIED CARD OF 'laws.FnJqPathOf'. -/
def fnJqPathOfCard : Claim7 := { stood := { row := fnJqPathOfRow, standIns := [], harness := (true, "c4f1d69a936038a561091e8aa5a3ded96c71554064eb9a431601f3c01e151548"), looks := false }, kinds := [], alts := [], laidByText := true, laidKinds := [.data, .data, .sentinel, .sentinel, .sentinel, .sentinel], laidTests := true, laidLooks := .later }
def FnJqPathOfCardSaid : Prop := Claim7.holds Tryd.pinned (.plain (OpenSpec.ofChange fnJqPathOfSpec)) fnJqPathOfCard

/-- THE SECOND FORM's CARD OF 'laws.FnJqPathOf'. -/
def fnJqPathOfUptoCard : Claim7 := { stood := { row := fnJqPathOfUptoRow, standIns := [], harness := (true, "c4f1d69a936038a561091e8aa5a3ded96c71554064eb9a431601f3c01e151548"), looks := false }, kinds := [], alts := [], laidByText := true, laidKinds := [.data, .data, .sentinel, .sentinel, .sentinel, .sentinel], laidTests := true, laidLooks := .later }
def FnJqPathOfUptoCardSaid : Prop := Claim7.holds Tryd.pinned (.plain (OpenSpec.upto fnJqPathOfSpec)) fnJqPathOfUptoCard
end Rows
end Go.Proofs.YtobmnfbplmefoaaDoor
