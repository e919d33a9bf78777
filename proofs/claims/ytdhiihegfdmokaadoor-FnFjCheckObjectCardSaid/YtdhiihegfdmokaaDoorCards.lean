/-
  DERIVED. GIVEN WITH THE SEED: THE CARDS: each row of YtdhiihegfdmokaaDoorRows.lean that lists a variable, with what it lists TIED to the program's text (the seventh form; the later family's looks); each row that meets fmt, with fmt's text TOLD by the authors' own Lean function (tested against real Go, not proved from fmt's source: count such statements apart). THE CARD IS WHAT COUNTS. Prove the row's statement (the work); the ties are given (YtdhiihegfdmokaaDoorTie.lean); close each card by the builder's one call (the guide's Derived/Test/ToyasCard.lean, 'card_holds'). Laid BY PROGRAM, IN A SANDBOX (cutbox-door.mjs). By AI agents, Wed Nov 11 2026. No macro, syntax, notation, axiom, sorry.
-/
import Derived.Test.YtdhiihegfdmokaaDoorRows
import GoSem.ClaimSeven
namespace Go.Proofs.YtdhiihegfdmokaaDoor
namespace Rows

/-- THE TIED CARD OF 'laws.FnFjCheckObject'. -/
def fnFjCheckObjectCard : Claim7 := { stood := { row := fnFjCheckObjectRow, standIns := [], harness := (true, "c172787e5833548ddcd9cd826e28c732bc3beecde4784c1485414286bd1235d1"), looks := true }, kinds := [], alts := [], laidByText := true, laidKinds := [.data, .data, .data, .sentinel, .sentinel], laidTests := true, laidLooks := .later }
def FnFjCheckObjectCardSaid : Prop := Claim7.holds Tryd.pinned (.plain (OpenSpec.ofChange fnFjCheckObjectSpec)) fnFjCheckObjectCard

/-- THE TIED CARD OF 'laws.FnFjValidBytes'. -/
def fnFjValidBytesCard : Claim7 := { stood := { row := fnFjValidBytesRow, standIns := [], harness := (true, "c172787e5833548ddcd9cd826e28c732bc3beecde4784c1485414286bd1235d1"), looks := true }, kinds := [], alts := [], laidByText := true, laidKinds := [.data, .data, .data, .sentinel, .sentinel], laidTests := true, laidLooks := .later }
def FnFjValidBytesCardSaid : Prop := Claim7.holds Tryd.pinned (.plain (OpenSpec.ofChange fnFjValidBytesSpec)) fnFjValidBytesCard

/-- THE TIED CARD OF 'laws.FnFjUnits'. -/
def fnFjUnitsCard : Claim7 := { stood := { row := fnFjUnitsRow, standIns := [], harness := (true, "c172787e5833548ddcd9cd826e28c732bc3beecde4784c1485414286bd1235d1"), looks := true }, kinds := [], alts := [], laidByText := true, laidKinds := [.data, .data, .data, .sentinel, .sentinel], laidTests := true, laidLooks := .later }
def FnFjUnitsCardSaid : Prop := Claim7.holds Tryd.pinned (.plain (OpenSpec.ofChange fnFjUnitsSpec)) fnFjUnitsCard

/-- THE TIED CARD OF 'laws.FnFjLax'. -/
def fnFjLaxCard : Claim7 := { stood := { row := fnFjLaxRow, standIns := [], harness := (true, "c172787e5833548ddcd9cd826e28c732bc3beecde4784c1485414286bd1235d1"), looks := true }, kinds := [], alts := [], laidByText := true, laidKinds := [.data, .data, .data, .data, .sentinel, .sentinel, .pinned, .pinned, .pinned, .pinned, .pinned, .pinned], laidTests := true, laidLooks := .later }
def FnFjLaxCardSaid : Prop := Claim7.holds Tryd.pinned (.plain (OpenSpec.ofChange fnFjLaxSpec)) fnFjLaxCard

/-- THE SECOND FORM's CARD OF 'laws.FnFjCheckObject'. -/
def fnFjCheckObjectUptoCard : Claim7 := { stood := { row := fnFjCheckObjectUptoRow, standIns := [], harness := (true, "c172787e5833548ddcd9cd826e28c732bc3beecde4784c1485414286bd1235d1"), looks := true }, kinds := [], alts := [], laidByText := true, laidKinds := [.data, .data, .data, .sentinel, .sentinel], laidTests := true, laidLooks := .later }
def FnFjCheckObjectUptoCardSaid : Prop := Claim7.holds Tryd.pinned (.plain (OpenSpec.upto fnFjCheckObjectSpec)) fnFjCheckObjectUptoCard

/-- THE SECOND FORM's CARD OF 'laws.FnFjValidBytes'. -/
def fnFjValidBytesUptoCard : Claim7 := { stood := { row := fnFjValidBytesUptoRow, standIns := [], harness := (true, "c172787e5833548ddcd9cd826e28c732bc3beecde4784c1485414286bd1235d1"), looks := true }, kinds := [], alts := [], laidByText := true, laidKinds := [.data, .data, .data, .sentinel, .sentinel], laidTests := true, laidLooks := .later }
def FnFjValidBytesUptoCardSaid : Prop := Claim7.holds Tryd.pinned (.plain (OpenSpec.upto fnFjValidBytesSpec)) fnFjValidBytesUptoCard

/-- THE SECOND FORM's CARD OF 'laws.FnFjUnits'. -/
def fnFjUnitsUptoCard : Claim7 := { stood := { row := fnFjUnitsUptoRow, standIns := [], harness := (true, "c172787e5833548ddcd9cd826e28c732bc3beecde4784c1485414286bd1235d1"), looks := true }, kinds := [], alts := [], laidByText := true, laidKinds := [.data, .data, .data, .sentinel, .sentinel], laidTests := true, laidLooks := .later }
def FnFjUnitsUptoCardSaid : Prop := Claim7.holds Tryd.pinned (.plain (OpenSpec.upto fnFjUnitsSpec)) fnFjUnitsUptoCard

/-- THE SECOND FORM's CARD OF 'laws.FnFjLax'. -/
def fnFjLaxUptoCard : Claim7 := { stood := { row := fnFjLaxUptoRow, standIns := [], harness := (true, "c172787e5833548ddcd9cd826e28c732bc3beecde4784c1485414286bd1235d1"), looks := true }, kinds := [], alts := [], laidByText := true, laidKinds := [.data, .data, .data, .data, .sentinel, .sentinel, .pinned, .pinned, .pinned, .pinned, .pinned, .pinned], laidTests := true, laidLooks := .later }
def FnFjLaxUptoCardSaid : Prop := Claim7.holds Tryd.pinned (.plain (OpenSpec.upto fnFjLaxSpec)) fnFjLaxUptoCard
end Rows
end Go.Proofs.YtdhiihegfdmokaaDoor
