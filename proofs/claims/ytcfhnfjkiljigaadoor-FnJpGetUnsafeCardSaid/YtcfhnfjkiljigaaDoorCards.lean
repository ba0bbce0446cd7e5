/-
  DERIVED. GIVEN WITH THE SEED: THE CARDS: each row of YtcfhnfjkiljigaaDoorRows.lean that lists a variable, with what it lists TIED to the program's text (the seventh form; the later family's looks); each row that meets fmt, with fmt's text TOLD by the authors' own Lean function (tested against real Go, not proved from fmt's source: count such statements apart). THE CARD IS WHAT COUNTS. Prove the row's statement (the work); the ties are given (YtcfhnfjkiljigaaDoorTie.lean); close each card by the builder's one call (the guide's Derived/Test/ToyasCard.lean, 'card_holds'). Laid BY PROGRAM, IN A SANDBOX (cutbox-door.mjs). By AI agents, Wed Nov 11 2026. No macro, syntax, notation, axiom, sorry.
-/
import Derived.Test.YtcfhnfjkiljigaaDoorRows
import GoSem.ClaimSeven
namespace Go.Proofs.YtcfhnfjkiljigaaDoor
namespace Rows

/-- THE TIED CARD OF 'laws.FnJpArrayGet'. -/
def fnJpArrayGetCard : Claim7 := { stood := { row := fnJpArrayGetRow, standIns := [], harness := (true, "21e01658a0d6f0f1edbdb8b9e2133127010cadca3202a3a81d2012cd1f05307e"), looks := true }, kinds := [], alts := [], laidByText := true, laidKinds := [.data, .data, .data, .sentinel, .sentinel, .data, .data, .sentinel, .sentinel, .sentinel, .sentinel, .sentinel, .sentinel, .sentinel], laidTests := true, laidLooks := .later }
def FnJpArrayGetCardSaid : Prop := Claim7.holds Tryd.pinned (.plain (OpenSpec.ofChange fnJpArrayGetSpec)) fnJpArrayGetCard

/-- THE TIED CARD OF 'laws.FnJpGetUnsafe'. -/
def fnJpGetUnsafeCard : Claim7 := { stood := { row := fnJpGetUnsafeRow, standIns := [], harness := (true, "21e01658a0d6f0f1edbdb8b9e2133127010cadca3202a3a81d2012cd1f05307e"), looks := true }, kinds := [], alts := [], laidByText := true, laidKinds := [.data, .data, .data, .sentinel, .sentinel, .data, .data, .sentinel, .sentinel, .sentinel, .sentinel, .sentinel, .sentinel, .sentinel], laidTests := true, laidLooks := .later }
def FnJpGetUnsafeCardSaid : Prop := Claim7.holds Tryd.pinned (.plain (OpenSpec.ofChange fnJpGetUnsafeSpec)) fnJpGetUnsafeCard

/-- THE TIED CARD OF 'laws.FnJpConfigQuote'. -/
def fnJpConfigQuoteCard : Claim7 := { stood := { row := fnJpConfigQuoteRow, standIns := [], harness := (true, "21e01658a0d6f0f1edbdb8b9e2133127010cadca3202a3a81d2012cd1f05307e"), looks := true }, kinds := [], alts := [], laidByText := true, laidKinds := [.data, .data, .data, .sentinel, .sentinel, .data, .sentinel, .sentinel, .sentinel, .sentinel, .sentinel, .sentinel, .sentinel, .sentinel, .sentinel], laidTests := true, laidLooks := .later }
def FnJpConfigQuoteCardSaid : Prop := Claim7.holds Tryd.pinned (.plain (OpenSpec.ofChange fnJpConfigQuoteSpec)) fnJpConfigQuoteCard

/-- THE SECOND FORM's CARD OF 'laws.FnJpArrayGet'. -/
def fnJpArrayGetUptoCard : Claim7 := { stood := { row := fnJpArrayGetUptoRow, standIns := [], harness := (true, "21e01658a0d6f0f1edbdb8b9e2133127010cadca3202a3a81d2012cd1f05307e"), looks := true }, kinds := [], alts := [], laidByText := true, laidKinds := [.data, .data, .data, .sentinel, .sentinel, .data, .data, .sentinel, .sentinel, .sentinel, .sentinel, .sentinel, .sentinel, .sentinel], laidTests := true, laidLooks := .later }
def FnJpArrayGetUptoCardSaid : Prop := Claim7.holds Tryd.pinned (.plain (OpenSpec.upto fnJpArrayGetSpec)) fnJpArrayGetUptoCard

/-- THE SECOND FORM's CARD OF 'laws.FnJpGetUnsafe'. -/
def fnJpGetUnsafeUptoCard : Claim7 := { stood := { row := fnJpGetUnsafeUptoRow, standIns := [], harness := (true, "21e01658a0d6f0f1edbdb8b9e2133127010cadca3202a3a81d2012cd1f05307e"), looks := true }, kinds := [], alts := [], laidByText := true, laidKinds := [.data, .data, .data, .sentinel, .sentinel, .data, .data, .sentinel, .sentinel, .sentinel, .sentinel, .sentinel, .sentinel, .sentinel], laidTests := true, laidLooks := .later }
def FnJpGetUnsafeUptoCardSaid : Prop := Claim7.holds Tryd.pinned (.plain (OpenSpec.upto fnJpGetUnsafeSpec)) fnJpGetUnsafeUptoCard

/-- THE SECOND FORM's CARD OF 'laws.FnJpConfigQuote'. -/
def fnJpConfigQuoteUptoCard : Claim7 := { stood := { row := fnJpConfigQuoteUptoRow, standIns := [], harness := (true, "21e01658a0d6f0f1edbdb8b9e2133127010cadca3202a3a81d2012cd1f05307e"), looks := true }, kinds := [], alts := [], laidByText := true, laidKinds := [.data, .data, .data, .sentinel, .sentinel, .data, .sentinel, .sentinel, .sentinel, .sentinel, .sentinel, .sentinel, .sentinel, .sentinel, .sentinel], laidTests := true, laidLooks := .later }
def FnJpConfigQuoteUptoCardSaid : Prop := Claim7.holds Tryd.pinned (.plain (OpenSpec.upto fnJpConfigQuoteSpec)) fnJpConfigQuoteUptoCard
end Rows
end Go.Proofs.YtcfhnfjkiljigaaDoor
