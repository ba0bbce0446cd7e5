/-
  DERIVED. GIVEN WITH THE SEED: THE CARDS: each row of YtjnfdgibogbgiaaDoorRows.lean that lists a variable, with what it lists TIED to the program's text (the seventh form; the later family's looks); each row that meets fmt, with fmt's text TOLD by the authors' own Lean function (tested against real Go, not proved from fmt's source: count such statements apart). THE CARD IS WHAT COUNTS. Prove the row's statement (the work); the ties are given (YtjnfdgibogbgiaaDoorTie.lean); close each card by the builder's one call (the guide's Derived/Test/ToyasCard.lean, 'card_holds'). Laid BY PROGRAM, IN A SANDBOX (cutbox-door.mjs). By AI agents, Wed Nov 11 2026. No macro, syntax, notation, axiom, sorry.
-/
import Derived.Test.YtjnfdgibogbgiaaDoorRows
import GoSem.ClaimSeven
namespace Go.Proofs.YtjnfdgibogbgiaaDoor
namespace Rows

/-- THE TIED CARD OF 'laws.FnFjCheckValue'. -/
def fnFjCheckValueCard : Claim7 := { stood := { row := fnFjCheckValueRow, standIns := [], harness := (true, "ae4c4a81869f3cebb78e4cab21091cefd007fa9408252778dbcca7a2b564e236"), looks := true }, kinds := [], alts := [], laidByText := true, laidKinds := [.data, .data, .data, .sentinel, .sentinel], laidTests := true, laidLooks := .later }
def FnFjCheckValueCardSaid : Prop := Claim7.holds Tryd.pinned (.plain (OpenSpec.ofChange fnFjCheckValueSpec)) fnFjCheckValueCard

/-- THE SECOND FORM's CARD OF 'laws.FnFjCheckValue'. -/
def fnFjCheckValueUptoCard : Claim7 := { stood := { row := fnFjCheckValueUptoRow, standIns := [], harness := (true, "ae4c4a81869f3cebb78e4cab21091cefd007fa9408252778dbcca7a2b564e236"), looks := true }, kinds := [], alts := [], laidByText := true, laidKinds := [.data, .data, .data, .sentinel, .sentinel], laidTests := true, laidLooks := .later }
def FnFjCheckValueUptoCardSaid : Prop := Claim7.holds Tryd.pinned (.plain (OpenSpec.upto fnFjCheckValueSpec)) fnFjCheckValueUptoCard
end Rows
end Go.Proofs.YtjnfdgibogbgiaaDoor
