/-
  DERIVED. GIVEN WITH THE SEED: THE CARDS: each row of YtlpcjgjphkdnbaaDoorRows.lean that lists a variable, with what it lists TIED to the program's text (the seventh form; the later family's looks); each row that meets fmt, with fmt's text TOLD by the authors' own Lean function (tested against real Go, not proved from fmt's source: count such statements apart). THE CARD IS WHAT COUNTS. Prove the row's statement (the work); the ties are given (YtlpcjgjphkdnbaaDoorTie.lean); close each card by the builder's one call (the guide's Derived/Test/ToyasCard.lean, 'card_holds'). Laid BY PROGRAM, IN A SANDBOX (cutbox-door.mjs). By AI agents, Wed Nov 11 2026. No macro, syntax, notation, axiom, sorry.
-/
import Derived.Test.YtlpcjgjphkdnbaaDoorRows
import GoSem.ClaimSeven
namespace Go.Proofs.YtlpcjgjphkdnbaaDoor
namespace Rows

/-- THE TIED CARD OF 'laws.FnJpConfigQuote'. -/
def fnJpConfigQuoteCard : Claim7 := { stood := { row := fnJpConfigQuoteRow, standIns := [], harness := (true, "b55564b32d3f12dc5b2571293b5a0a4edb9db66767cd9aa48361f5b5ef57eabb"), looks := true }, kinds := [], alts := [], laidByText := true, laidKinds := [.data, .data, .data, .sentinel, .sentinel, .data, .sentinel, .sentinel, .sentinel, .sentinel, .sentinel, .sentinel, .sentinel, .sentinel, .sentinel], laidTests := true, laidLooks := .later }
def FnJpConfigQuoteCardSaid : Prop := Claim7.holds Tryd.pinned (.plain (OpenSpec.ofChange fnJpConfigQuoteSpec)) fnJpConfigQuoteCard

/-- THE SECOND FORM's CARD OF 'laws.FnJpConfigQuote'. -/
def fnJpConfigQuoteUptoCard : Claim7 := { stood := { row := fnJpConfigQuoteUptoRow, standIns := [], harness := (true, "b55564b32d3f12dc5b2571293b5a0a4edb9db66767cd9aa48361f5b5ef57eabb"), looks := true }, kinds := [], alts := [], laidByText := true, laidKinds := [.data, .data, .data, .sentinel, .sentinel, .data, .sentinel, .sentinel, .sentinel, .sentinel, .sentinel, .sentinel, .sentinel, .sentinel, .sentinel], laidTests := true, laidLooks := .later }
def FnJpConfigQuoteUptoCardSaid : Prop := Claim7.holds Tryd.pinned (.plain (OpenSpec.upto fnJpConfigQuoteSpec)) fnJpConfigQuoteUptoCard
end Rows
end Go.Proofs.YtlpcjgjphkdnbaaDoor
