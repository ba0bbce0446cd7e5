/-
  DERIVED. GIVEN WITH THE SEED: THE CARDS: each row of YtjfofbgnppdlgaaDoorRows.lean that lists a variable, with what it lists TIED to the program's text (the seventh form; the later family's looks); each row that meets fmt, with fmt's text TOLD by the authors' own Lean function (tested against real Go, not proved from fmt's source: count such statements apart). THE CARD IS WHAT COUNTS. Prove the row's statement (the work); the ties are given (YtjfofbgnppdlgaaDoorTie.lean); close each card by the builder's one call (the guide's Derived/Test/ToyasCard.lean, 'card_holds'). Laid BY PROGRAM, IN A SANDBOX (cutbox-door.mjs). By AI agents, Wed Nov 11 2026. No macro, syntax, notation, axiom, sorry.
-/
import Derived.Test.YtjfofbgnppdlgaaDoorRows
import GoSem.ClaimSeven
namespace Go.Proofs.YtjfofbgnppdlgaaDoor
namespace Rows

/-- THE TIED CARD OF 'laws.FnFjDeep'. -/
def fnFjDeepCard : Claim7 := { stood := { row := fnFjDeepRow, standIns := [], harness := (true, "7fda0a9c1b16119ea4330c4c6e83b6ac5552fa78c5a44fcca657a40106efc556"), looks := true }, kinds := [], alts := [], laidByText := true, laidKinds := [.data, .data, .data, .data, .sentinel, .sentinel, .pinned, .pinned, .pinned, .pinned, .pinned, .pinned], laidTests := true, laidLooks := .later }
def FnFjDeepCardSaid : Prop := Claim7.holds Tryd.pinned (.plain (OpenSpec.ofChange fnFjDeepSpec)) fnFjDeepCard

/-- THE TIED CARD OF 'laws.FnFjDeepExactly'. -/
def fnFjDeepExactlyCard : Claim7 := { stood := { row := fnFjDeepExactlyRow, standIns := [], harness := (true, "7fda0a9c1b16119ea4330c4c6e83b6ac5552fa78c5a44fcca657a40106efc556"), looks := true }, kinds := [], alts := [], laidByText := true, laidKinds := [.data, .data, .data, .data, .sentinel, .sentinel, .pinned, .pinned, .pinned, .pinned, .pinned, .pinned], laidTests := true, laidLooks := .later }
def FnFjDeepExactlyCardSaid : Prop := Claim7.holds Tryd.pinned (.plain (OpenSpec.ofChange fnFjDeepExactlySpec)) fnFjDeepExactlyCard

/-- THE SECOND FORM's CARD OF 'laws.FnFjDeep'. -/
def fnFjDeepUptoCard : Claim7 := { stood := { row := fnFjDeepUptoRow, standIns := [], harness := (true, "7fda0a9c1b16119ea4330c4c6e83b6ac5552fa78c5a44fcca657a40106efc556"), looks := true }, kinds := [], alts := [], laidByText := true, laidKinds := [.data, .data, .data, .data, .sentinel, .sentinel, .pinned, .pinned, .pinned, .pinned, .pinned, .pinned], laidTests := true, laidLooks := .later }
def FnFjDeepUptoCardSaid : Prop := Claim7.holds Tryd.pinned (.plain (OpenSpec.upto fnFjDeepSpec)) fnFjDeepUptoCard

/-- THE SECOND FORM's CARD OF 'laws.FnFjDeepExactly'. -/
def fnFjDeepExactlyUptoCard : Claim7 := { stood := { row := fnFjDeepExactlyUptoRow, standIns := [], harness := (true, "7fda0a9c1b16119ea4330c4c6e83b6ac5552fa78c5a44fcca657a40106efc556"), looks := true }, kinds := [], alts := [], laidByText := true, laidKinds := [.data, .data, .data, .data, .sentinel, .sentinel, .pinned, .pinned, .pinned, .pinned, .pinned, .pinned], laidTests := true, laidLooks := .later }
def FnFjDeepExactlyUptoCardSaid : Prop := Claim7.holds Tryd.pinned (.plain (OpenSpec.upto fnFjDeepExactlySpec)) fnFjDeepExactlyUptoCard
end Rows
end Go.Proofs.YtjfofbgnppdlgaaDoor
