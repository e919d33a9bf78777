/-
  DERIVED. GIVEN WITH THE SEED: THE CARDS: each row of YtljmeaemonpkoaaDoorRows.lean that lists a variable, with what it lists TIED to the program's text (the seventh form; the later family's looks); each row that meets fmt, with fmt's text TOLD by the authors' own Lean function (tested against real Go, not proved from fmt's source: count such statements apart). THE CARD IS WHAT COUNTS. Prove the row's statement (the work); the ties are given (YtljmeaemonpkoaaDoorTie.lean); close each card by the builder's one call (the guide's Derived/Test/ToyasCard.lean, 'card_holds'). Laid BY PROGRAM, IN A SANDBOX (cutbox-door.mjs). By AI agents, Wed Nov 11 2026. No macro, syntax, notation, axiom, sorry.
-/
import Derived.Test.YtljmeaemonpkoaaDoorRows
import GoSem.ClaimSeven
namespace Go.Proofs.YtljmeaemonpkoaaDoor
namespace Rows

/-- THE TIED CARD OF 'laws.FnSjStringJoin'. -/
def fnSjStringJoinCard : Claim7 := { stood := { row := fnSjStringJoinRow, standIns := [], harness := (true, "44deb6a8433237b99336c92a88689bed3365bb9a622cbd1653a5c2dbd507e7f6"), looks := true }, kinds := [], alts := [], laidByText := true, laidKinds := [.data, .pinned], laidTests := true, laidLooks := .later }
def FnSjStringJoinCardSaid : Prop := Claim7.holds Tryd.pinned (.plain (OpenSpec.ofChange fnSjStringJoinSpec)) fnSjStringJoinCard

/-- THE TIED CARD OF 'laws.FnJpParseStringRune'. -/
def fnJpParseStringRuneCard : Claim7 := { stood := { row := fnJpParseStringRuneRow, standIns := [], harness := (true, "44deb6a8433237b99336c92a88689bed3365bb9a622cbd1653a5c2dbd507e7f6"), looks := true }, kinds := [], alts := [], laidByText := true, laidKinds := [.data, .data, .sentinel, .sentinel], laidTests := true, laidLooks := .later }
def FnJpParseStringRuneCardSaid : Prop := Claim7.holds Tryd.pinned (.plain (OpenSpec.ofChange fnJpParseStringRuneSpec)) fnJpParseStringRuneCard

/-- THE TIED CARD OF 'laws.FnMtLimitMatch'. -/
def fnMtLimitMatchCard : Claim7 := { stood := { row := fnMtLimitMatchRow, standIns := [], harness := (true, "44deb6a8433237b99336c92a88689bed3365bb9a622cbd1653a5c2dbd507e7f6"), looks := true }, kinds := [], alts := [], laidByText := true, laidKinds := [.data, .pinned], laidTests := true, laidLooks := .later }
def FnMtLimitMatchCardSaid : Prop := Claim7.holds Tryd.pinned (.plain (OpenSpec.ofChange fnMtLimitMatchSpec)) fnMtLimitMatchCard

/-- THE TIED CARD OF 'laws.FnMtLimitOne'. -/
def fnMtLimitOneCard : Claim7 := { stood := { row := fnMtLimitOneRow, standIns := [], harness := (true, "44deb6a8433237b99336c92a88689bed3365bb9a622cbd1653a5c2dbd507e7f6"), looks := true }, kinds := [], alts := [], laidByText := true, laidKinds := [.data, .pinned], laidTests := true, laidLooks := .later }
def FnMtLimitOneCardSaid : Prop := Claim7.holds Tryd.pinned (.plain (OpenSpec.ofChange fnMtLimitOneSpec)) fnMtLimitOneCard

/-- THE TIED CARD OF 'laws.FnMtNoCaseSmall'. -/
def fnMtNoCaseSmallCard : Claim7 := { stood := { row := fnMtNoCaseSmallRow, standIns := [], harness := (true, "44deb6a8433237b99336c92a88689bed3365bb9a622cbd1653a5c2dbd507e7f6"), looks := true }, kinds := [], alts := [], laidByText := true, laidKinds := [.data, .pinned], laidTests := true, laidLooks := .later }
def FnMtNoCaseSmallCardSaid : Prop := Claim7.holds Tryd.pinned (.plain (OpenSpec.ofChange fnMtNoCaseSmallSpec)) fnMtNoCaseSmallCard

/-- THE TIED CARD OF 'laws.FnFfInt64'. -/
def fnFfInt64Card : Claim7 := { stood := { row := fnFfInt64Row, standIns := [], harness := (true, "44deb6a8433237b99336c92a88689bed3365bb9a622cbd1653a5c2dbd507e7f6"), looks := true }, kinds := [], alts := [], laidByText := true, laidKinds := [.data, .data, .data, .sentinel, .sentinel], laidTests := true, laidLooks := .later }
def FnFfInt64CardSaid : Prop := Claim7.holds Tryd.pinned (.plain (OpenSpec.ofChange fnFfInt64Spec)) fnFfInt64Card

/-- THE SECOND FORM's CARD OF 'laws.FnSjStringJoin'. -/
def fnSjStringJoinUptoCard : Claim7 := { stood := { row := fnSjStringJoinUptoRow, standIns := [], harness := (true, "44deb6a8433237b99336c92a88689bed3365bb9a622cbd1653a5c2dbd507e7f6"), looks := true }, kinds := [], alts := [], laidByText := true, laidKinds := [.data, .pinned], laidTests := true, laidLooks := .later }
def FnSjStringJoinUptoCardSaid : Prop := Claim7.holds Tryd.pinned (.plain (OpenSpec.upto fnSjStringJoinSpec)) fnSjStringJoinUptoCard

/-- THE SECOND FORM's CARD OF 'laws.FnJpParseStringRune'. -/
def fnJpParseStringRuneUptoCard : Claim7 := { stood := { row := fnJpParseStringRuneUptoRow, standIns := [], harness := (true, "44deb6a8433237b99336c92a88689bed3365bb9a622cbd1653a5c2dbd507e7f6"), looks := true }, kinds := [], alts := [], laidByText := true, laidKinds := [.data, .data, .sentinel, .sentinel], laidTests := true, laidLooks := .later }
def FnJpParseStringRuneUptoCardSaid : Prop := Claim7.holds Tryd.pinned (.plain (OpenSpec.upto fnJpParseStringRuneSpec)) fnJpParseStringRuneUptoCard

/-- THE SECOND FORM's CARD OF 'laws.FnMtLimitMatch'. -/
def fnMtLimitMatchUptoCard : Claim7 := { stood := { row := fnMtLimitMatchUptoRow, standIns := [], harness := (true, "44deb6a8433237b99336c92a88689bed3365bb9a622cbd1653a5c2dbd507e7f6"), looks := true }, kinds := [], alts := [], laidByText := true, laidKinds := [.data, .pinned], laidTests := true, laidLooks := .later }
def FnMtLimitMatchUptoCardSaid : Prop := Claim7.holds Tryd.pinned (.plain (OpenSpec.upto fnMtLimitMatchSpec)) fnMtLimitMatchUptoCard

/-- THE SECOND FORM's CARD OF 'laws.FnMtLimitOne'. -/
def fnMtLimitOneUptoCard : Claim7 := { stood := { row := fnMtLimitOneUptoRow, standIns := [], harness := (true, "44deb6a8433237b99336c92a88689bed3365bb9a622cbd1653a5c2dbd507e7f6"), looks := true }, kinds := [], alts := [], laidByText := true, laidKinds := [.data, .pinned], laidTests := true, laidLooks := .later }
def FnMtLimitOneUptoCardSaid : Prop := Claim7.holds Tryd.pinned (.plain (OpenSpec.upto fnMtLimitOneSpec)) fnMtLimitOneUptoCard

/-- THE SECOND FORM's CARD OF 'laws.FnMtNoCaseSmall'. -/
def fnMtNoCaseSmallUptoCard : Claim7 := { stood := { row := fnMtNoCaseSmallUptoRow, standIns := [], harness := (true, "44deb6a8433237b99336c92a88689bed3365bb9a622cbd1653a5c2dbd507e7f6"), looks := true }, kinds := [], alts := [], laidByText := true, laidKinds := [.data, .pinned], laidTests := true, laidLooks := .later }
def FnMtNoCaseSmallUptoCardSaid : Prop := Claim7.holds Tryd.pinned (.plain (OpenSpec.upto fnMtNoCaseSmallSpec)) fnMtNoCaseSmallUptoCard

/-- THE SECOND FORM's CARD OF 'laws.FnFfInt64'. -/
def fnFfInt64UptoCard : Claim7 := { stood := { row := fnFfInt64UptoRow, standIns := [], harness := (true, "44deb6a8433237b99336c92a88689bed3365bb9a622cbd1653a5c2dbd507e7f6"), looks := true }, kinds := [], alts := [], laidByText := true, laidKinds := [.data, .data, .data, .sentinel, .sentinel], laidTests := true, laidLooks := .later }
def FnFfInt64UptoCardSaid : Prop := Claim7.holds Tryd.pinned (.plain (OpenSpec.upto fnFfInt64Spec)) fnFfInt64UptoCard
end Rows
end Go.Proofs.YtljmeaemonpkoaaDoor
