/-
  DERIVED. GIVEN WITH THE SEED: THE CARDS: each row of YtdllbnecbbggfaaDoorRows.lean that lists a variable, with what it lists TIED to the program's text (the seventh form; the later family's looks); each row that meets fmt, with fmt's text TOLD by the authors' own Lean function (tested against real Go, not proved from fmt's source: count such statements apart). THE CARD IS WHAT COUNTS. Prove the row's statement (the work); the ties are given (YtdllbnecbbggfaaDoorTie.lean); close each card by the builder's one call (the guide's Derived/Test/ToyasCard.lean, 'card_holds'). Laid BY PROGRAM, IN A SANDBOX (cutbox-door.mjs). By AI agents, Wed Nov 11 2026. No macro, syntax, notation, axiom, sorry.
-/
import Derived.Test.YtdllbnecbbggfaaDoorRows
import GoSem.ClaimSeven
namespace Go.Proofs.YtdllbnecbbggfaaDoor
namespace Rows

/-- THE TIED CARD OF 'laws.FnJpEscapeAt'. -/
def fnJpEscapeAtCard : Claim7 := { stood := { row := fnJpEscapeAtRow, standIns := [], harness := (true, "6490abd51d1e9e9400e9c2b02ba6de7dee1a0e71bcf56a7814699802770f565b"), looks := true }, kinds := [], alts := [], laidByText := true, laidKinds := [.data, .data], laidTests := true, laidLooks := .later }
def FnJpEscapeAtCardSaid : Prop := Claim7.holds Tryd.pinned (.plain (OpenSpec.ofChange fnJpEscapeAtSpec)) fnJpEscapeAtCard

/-- THE TIED CARD OF 'laws.FnMtNoCase'. -/
def fnMtNoCaseCard : Claim7 := { stood := { row := fnMtNoCaseRow, standIns := [], harness := (true, "6490abd51d1e9e9400e9c2b02ba6de7dee1a0e71bcf56a7814699802770f565b"), looks := true }, kinds := [], alts := [], laidByText := true, laidKinds := [.data, .pinned], laidTests := true, laidLooks := .later }
def FnMtNoCaseCardSaid : Prop := Claim7.holds Tryd.pinned (.plain (OpenSpec.ofChange fnMtNoCaseSpec)) fnMtNoCaseCard

/-- THE TIED CARD OF 'laws.FnMtWithin'. -/
def fnMtWithinCard : Claim7 := { stood := { row := fnMtWithinRow, standIns := [], harness := (true, "6490abd51d1e9e9400e9c2b02ba6de7dee1a0e71bcf56a7814699802770f565b"), looks := true }, kinds := [], alts := [], laidByText := true, laidKinds := [.data, .pinned], laidTests := true, laidLooks := .later }
def FnMtWithinCardSaid : Prop := Claim7.holds Tryd.pinned (.plain (OpenSpec.ofChange fnMtWithinSpec)) fnMtWithinCard

/-- THE TIED CARD OF 'laws.FnJpParseStringBack'. -/
def fnJpParseStringBackCard : Claim7 := { stood := { row := fnJpParseStringBackRow, standIns := [], harness := (true, "6490abd51d1e9e9400e9c2b02ba6de7dee1a0e71bcf56a7814699802770f565b"), looks := true }, kinds := [], alts := [], laidByText := true, laidKinds := [.data, .data, .sentinel, .sentinel], laidTests := true, laidLooks := .later }
def FnJpParseStringBackCardSaid : Prop := Claim7.holds Tryd.pinned (.plain (OpenSpec.ofChange fnJpParseStringBackSpec)) fnJpParseStringBackCard

/-- THE TIED CARD OF 'laws.FnMtUnlimited'. -/
def fnMtUnlimitedCard : Claim7 := { stood := { row := fnMtUnlimitedRow, standIns := [], harness := (true, "6490abd51d1e9e9400e9c2b02ba6de7dee1a0e71bcf56a7814699802770f565b"), looks := true }, kinds := [], alts := [], laidByText := true, laidKinds := [.data, .pinned], laidTests := true, laidLooks := .later }
def FnMtUnlimitedCardSaid : Prop := Claim7.holds Tryd.pinned (.plain (OpenSpec.ofChange fnMtUnlimitedSpec)) fnMtUnlimitedCard

/-- THE TIED CARD OF 'laws.FnGjQuoteValid'. -/
def fnGjQuoteValidCard : Claim7 := { stood := { row := fnGjQuoteValidRow, standIns := [], harness := (true, "6490abd51d1e9e9400e9c2b02ba6de7dee1a0e71bcf56a7814699802770f565b"), looks := true }, kinds := [], alts := [], laidByText := true, laidKinds := [.data, .data, .pinned], laidTests := true, laidLooks := .later }
def FnGjQuoteValidCardSaid : Prop := Claim7.holds Tryd.pinned (.plain (OpenSpec.ofChange fnGjQuoteValidSpec)) fnGjQuoteValidCard

/-- THE TIED CARD OF 'laws.FnGjUnescape'. -/
def fnGjUnescapeCard : Claim7 := { stood := { row := fnGjUnescapeRow, standIns := [], harness := (true, "6490abd51d1e9e9400e9c2b02ba6de7dee1a0e71bcf56a7814699802770f565b"), looks := true }, kinds := [], alts := [], laidByText := true, laidKinds := [.data, .data, .data, .sentinel, .sentinel], laidTests := true, laidLooks := .later }
def FnGjUnescapeCardSaid : Prop := Claim7.holds Tryd.pinned (.plain (OpenSpec.ofChange fnGjUnescapeSpec)) fnGjUnescapeCard

/-- THE TIED CARD OF 'laws.FnGjUnescapeJoin'. -/
def fnGjUnescapeJoinCard : Claim7 := { stood := { row := fnGjUnescapeJoinRow, standIns := [], harness := (true, "6490abd51d1e9e9400e9c2b02ba6de7dee1a0e71bcf56a7814699802770f565b"), looks := true }, kinds := [], alts := [], laidByText := true, laidKinds := [.data, .data, .data, .sentinel, .sentinel], laidTests := true, laidLooks := .later }
def FnGjUnescapeJoinCardSaid : Prop := Claim7.holds Tryd.pinned (.plain (OpenSpec.ofChange fnGjUnescapeJoinSpec)) fnGjUnescapeJoinCard

/-- THE SECOND FORM's CARD OF 'laws.FnJpEscapeAt'. -/
def fnJpEscapeAtUptoCard : Claim7 := { stood := { row := fnJpEscapeAtUptoRow, standIns := [], harness := (true, "6490abd51d1e9e9400e9c2b02ba6de7dee1a0e71bcf56a7814699802770f565b"), looks := true }, kinds := [], alts := [], laidByText := true, laidKinds := [.data, .data], laidTests := true, laidLooks := .later }
def FnJpEscapeAtUptoCardSaid : Prop := Claim7.holds Tryd.pinned (.plain (OpenSpec.upto fnJpEscapeAtSpec)) fnJpEscapeAtUptoCard

/-- THE SECOND FORM's CARD OF 'laws.FnMtNoCase'. -/
def fnMtNoCaseUptoCard : Claim7 := { stood := { row := fnMtNoCaseUptoRow, standIns := [], harness := (true, "6490abd51d1e9e9400e9c2b02ba6de7dee1a0e71bcf56a7814699802770f565b"), looks := true }, kinds := [], alts := [], laidByText := true, laidKinds := [.data, .pinned], laidTests := true, laidLooks := .later }
def FnMtNoCaseUptoCardSaid : Prop := Claim7.holds Tryd.pinned (.plain (OpenSpec.upto fnMtNoCaseSpec)) fnMtNoCaseUptoCard

/-- THE SECOND FORM's CARD OF 'laws.FnMtWithin'. -/
def fnMtWithinUptoCard : Claim7 := { stood := { row := fnMtWithinUptoRow, standIns := [], harness := (true, "6490abd51d1e9e9400e9c2b02ba6de7dee1a0e71bcf56a7814699802770f565b"), looks := true }, kinds := [], alts := [], laidByText := true, laidKinds := [.data, .pinned], laidTests := true, laidLooks := .later }
def FnMtWithinUptoCardSaid : Prop := Claim7.holds Tryd.pinned (.plain (OpenSpec.upto fnMtWithinSpec)) fnMtWithinUptoCard

/-- THE SECOND FORM's CARD OF 'laws.FnJpParseStringBack'. -/
def fnJpParseStringBackUptoCard : Claim7 := { stood := { row := fnJpParseStringBackUptoRow, standIns := [], harness := (true, "6490abd51d1e9e9400e9c2b02ba6de7dee1a0e71bcf56a7814699802770f565b"), looks := true }, kinds := [], alts := [], laidByText := true, laidKinds := [.data, .data, .sentinel, .sentinel], laidTests := true, laidLooks := .later }
def FnJpParseStringBackUptoCardSaid : Prop := Claim7.holds Tryd.pinned (.plain (OpenSpec.upto fnJpParseStringBackSpec)) fnJpParseStringBackUptoCard

/-- THE SECOND FORM's CARD OF 'laws.FnMtUnlimited'. -/
def fnMtUnlimitedUptoCard : Claim7 := { stood := { row := fnMtUnlimitedUptoRow, standIns := [], harness := (true, "6490abd51d1e9e9400e9c2b02ba6de7dee1a0e71bcf56a7814699802770f565b"), looks := true }, kinds := [], alts := [], laidByText := true, laidKinds := [.data, .pinned], laidTests := true, laidLooks := .later }
def FnMtUnlimitedUptoCardSaid : Prop := Claim7.holds Tryd.pinned (.plain (OpenSpec.upto fnMtUnlimitedSpec)) fnMtUnlimitedUptoCard

/-- THE SECOND FORM's CARD OF 'laws.FnGjQuoteValid'. -/
def fnGjQuoteValidUptoCard : Claim7 := { stood := { row := fnGjQuoteValidUptoRow, standIns := [], harness := (true, "6490abd51d1e9e9400e9c2b02ba6de7dee1a0e71bcf56a7814699802770f565b"), looks := true }, kinds := [], alts := [], laidByText := true, laidKinds := [.data, .data, .pinned], laidTests := true, laidLooks := .later }
def FnGjQuoteValidUptoCardSaid : Prop := Claim7.holds Tryd.pinned (.plain (OpenSpec.upto fnGjQuoteValidSpec)) fnGjQuoteValidUptoCard

/-- THE SECOND FORM's CARD OF 'laws.FnGjUnescape'. -/
def fnGjUnescapeUptoCard : Claim7 := { stood := { row := fnGjUnescapeUptoRow, standIns := [], harness := (true, "6490abd51d1e9e9400e9c2b02ba6de7dee1a0e71bcf56a7814699802770f565b"), looks := true }, kinds := [], alts := [], laidByText := true, laidKinds := [.data, .data, .data, .sentinel, .sentinel], laidTests := true, laidLooks := .later }
def FnGjUnescapeUptoCardSaid : Prop := Claim7.holds Tryd.pinned (.plain (OpenSpec.upto fnGjUnescapeSpec)) fnGjUnescapeUptoCard

/-- THE SECOND FORM's CARD OF 'laws.FnGjUnescapeJoin'. -/
def fnGjUnescapeJoinUptoCard : Claim7 := { stood := { row := fnGjUnescapeJoinUptoRow, standIns := [], harness := (true, "6490abd51d1e9e9400e9c2b02ba6de7dee1a0e71bcf56a7814699802770f565b"), looks := true }, kinds := [], alts := [], laidByText := true, laidKinds := [.data, .data, .data, .sentinel, .sentinel], laidTests := true, laidLooks := .later }
def FnGjUnescapeJoinUptoCardSaid : Prop := Claim7.holds Tryd.pinned (.plain (OpenSpec.upto fnGjUnescapeJoinSpec)) fnGjUnescapeJoinUptoCard
end Rows
end Go.Proofs.YtdllbnecbbggfaaDoor
