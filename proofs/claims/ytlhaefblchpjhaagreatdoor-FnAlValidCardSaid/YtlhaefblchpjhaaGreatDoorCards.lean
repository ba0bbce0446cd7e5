/-
  DERIVED. GIVEN WITH THE SEED: THE CARDS: each row of YtlhaefblchpjhaaGreatDoorRows.lean that lists a variable, with what it lists TIED to the program's text (the seventh form; the later family's looks); each row that meets fmt, with fmt's text TOLD by the authors' own Lean function (tested against real Go, not proved from fmt's source: count such statements apart). THE CARD IS WHAT COUNTS. Prove the row's statement (the work); the ties are given (YtlhaefblchpjhaaGreatDoorTie.lean); close each card by the builder's one call (the guide's Derived/Test/ToyasCard.lean, 'card_holds'). Laid BY PROGRAM, IN A SANDBOX (cutbox-door.mjs). By AI agents, Wed Nov 11 2026. No macro, syntax, notation, axiom, sorry.
-/
import Derived.Test.YtlhaefblchpjhaaGreatDoorRows
import GoSem.ClaimSeven
namespace Go.Proofs.YtlhaefblchpjhaaGreatDoor
namespace Rows

/-- THE TIED CARD OF 'laws.FnFjGetArray'. -/
def fnFjGetArrayCard : Claim7 := { stood := { row := fnFjGetArrayRow, standIns := [], harness := (true, "b52810fa268bf4b2bf7c018c6c88297d0c566ad3ca7c10ce5a66ebe2dd7b7e78"), looks := true }, kinds := [], alts := [], laidByText := true, laidKinds := [.data, .data, .data, .data, .sentinel, .sentinel, .pinned, .pinned, .pinned, .pinned, .pinned, .pinned], laidTests := true, laidLooks := .later }
def FnFjGetArrayCardSaid : Prop := Claim7.holds Tryz.pinned (.plain (OpenSpec.ofChange fnFjGetArraySpec)) fnFjGetArrayCard

/-- THE TIED CARD OF 'laws.FnFjGetReprintAll'. -/
def fnFjGetReprintAllCard : Claim7 := { stood := { row := fnFjGetReprintAllRow, standIns := [], harness := (true, "b52810fa268bf4b2bf7c018c6c88297d0c566ad3ca7c10ce5a66ebe2dd7b7e78"), looks := true }, kinds := [], alts := [], laidByText := true, laidKinds := [.data, .data, .data, .data, .sentinel, .sentinel, .pinned, .pinned, .pinned, .pinned, .pinned, .pinned], laidTests := true, laidLooks := .later }
def FnFjGetReprintAllCardSaid : Prop := Claim7.holds Tryz.pinned (.plain (OpenSpec.ofChange fnFjGetReprintAllSpec)) fnFjGetReprintAllCard

/-- THE TIED CARD OF 'laws.FnAlValid'. -/
def fnAlValidCard : Claim7 := { stood := { row := fnAlValidRow, standIns := [], harness := (true, "b52810fa268bf4b2bf7c018c6c88297d0c566ad3ca7c10ce5a66ebe2dd7b7e78"), looks := true }, kinds := [], alts := [], laidByText := true, laidKinds := [.data, .data, .data, .data, .sentinel, .sentinel, .pinned, .pinned, .pinned, .pinned, .pinned, .pinned], laidTests := true, laidLooks := .later }
def FnAlValidCardSaid : Prop := Claim7.holds Tryz.pinned (.plain (OpenSpec.ofChange fnAlValidSpec)) fnAlValidCard

/-- THE TIED CARD OF 'laws.FnFjSetItem'. -/
def fnFjSetItemCard : Claim7 := { stood := { row := fnFjSetItemRow, standIns := [], harness := (true, "b52810fa268bf4b2bf7c018c6c88297d0c566ad3ca7c10ce5a66ebe2dd7b7e78"), looks := true }, kinds := [], alts := [], laidByText := true, laidKinds := [.data, .data, .data, .data, .sentinel, .sentinel, .pinned, .pinned, .pinned, .pinned, .pinned, .pinned], laidTests := true, laidLooks := .later }
def FnFjSetItemCardSaid : Prop := Claim7.holds Tryz.pinned (.plain (OpenSpec.ofChange fnFjSetItemSpec)) fnFjSetItemCard

/-- THE TIED CARD OF 'laws.FnFjBuildScript'. -/
def fnFjBuildScriptCard : Claim7 := { stood := { row := fnFjBuildScriptRow, standIns := [], harness := (true, "b52810fa268bf4b2bf7c018c6c88297d0c566ad3ca7c10ce5a66ebe2dd7b7e78"), looks := true }, kinds := [], alts := [], laidByText := true, laidKinds := [.data, .data, .data, .data, .sentinel, .sentinel, .pinned, .pinned, .pinned, .pinned, .pinned, .pinned], laidTests := true, laidLooks := .later }
def FnFjBuildScriptCardSaid : Prop := Claim7.holds Tryz.pinned (.plain (OpenSpec.ofChange fnFjBuildScriptSpec)) fnFjBuildScriptCard

/-- THE SECOND FORM's CARD OF 'laws.FnFjGetArray'. -/
def fnFjGetArrayUptoCard : Claim7 := { stood := { row := fnFjGetArrayUptoRow, standIns := [], harness := (true, "b52810fa268bf4b2bf7c018c6c88297d0c566ad3ca7c10ce5a66ebe2dd7b7e78"), looks := true }, kinds := [], alts := [], laidByText := true, laidKinds := [.data, .data, .data, .data, .sentinel, .sentinel, .pinned, .pinned, .pinned, .pinned, .pinned, .pinned], laidTests := true, laidLooks := .later }
def FnFjGetArrayUptoCardSaid : Prop := Claim7.holds Tryz.pinned (.plain (OpenSpec.upto fnFjGetArraySpec)) fnFjGetArrayUptoCard

/-- THE SECOND FORM's CARD OF 'laws.FnFjGetReprintAll'. -/
def fnFjGetReprintAllUptoCard : Claim7 := { stood := { row := fnFjGetReprintAllUptoRow, standIns := [], harness := (true, "b52810fa268bf4b2bf7c018c6c88297d0c566ad3ca7c10ce5a66ebe2dd7b7e78"), looks := true }, kinds := [], alts := [], laidByText := true, laidKinds := [.data, .data, .data, .data, .sentinel, .sentinel, .pinned, .pinned, .pinned, .pinned, .pinned, .pinned], laidTests := true, laidLooks := .later }
def FnFjGetReprintAllUptoCardSaid : Prop := Claim7.holds Tryz.pinned (.plain (OpenSpec.upto fnFjGetReprintAllSpec)) fnFjGetReprintAllUptoCard

/-- THE SECOND FORM's CARD OF 'laws.FnAlValid'. -/
def fnAlValidUptoCard : Claim7 := { stood := { row := fnAlValidUptoRow, standIns := [], harness := (true, "b52810fa268bf4b2bf7c018c6c88297d0c566ad3ca7c10ce5a66ebe2dd7b7e78"), looks := true }, kinds := [], alts := [], laidByText := true, laidKinds := [.data, .data, .data, .data, .sentinel, .sentinel, .pinned, .pinned, .pinned, .pinned, .pinned, .pinned], laidTests := true, laidLooks := .later }
def FnAlValidUptoCardSaid : Prop := Claim7.holds Tryz.pinned (.plain (OpenSpec.upto fnAlValidSpec)) fnAlValidUptoCard

/-- THE SECOND FORM's CARD OF 'laws.FnFjSetItem'. -/
def fnFjSetItemUptoCard : Claim7 := { stood := { row := fnFjSetItemUptoRow, standIns := [], harness := (true, "b52810fa268bf4b2bf7c018c6c88297d0c566ad3ca7c10ce5a66ebe2dd7b7e78"), looks := true }, kinds := [], alts := [], laidByText := true, laidKinds := [.data, .data, .data, .data, .sentinel, .sentinel, .pinned, .pinned, .pinned, .pinned, .pinned, .pinned], laidTests := true, laidLooks := .later }
def FnFjSetItemUptoCardSaid : Prop := Claim7.holds Tryz.pinned (.plain (OpenSpec.upto fnFjSetItemSpec)) fnFjSetItemUptoCard

/-- THE SECOND FORM's CARD OF 'laws.FnFjBuildScript'. -/
def fnFjBuildScriptUptoCard : Claim7 := { stood := { row := fnFjBuildScriptUptoRow, standIns := [], harness := (true, "b52810fa268bf4b2bf7c018c6c88297d0c566ad3ca7c10ce5a66ebe2dd7b7e78"), looks := true }, kinds := [], alts := [], laidByText := true, laidKinds := [.data, .data, .data, .data, .sentinel, .sentinel, .pinned, .pinned, .pinned, .pinned, .pinned, .pinned], laidTests := true, laidLooks := .later }
def FnFjBuildScriptUptoCardSaid : Prop := Claim7.holds Tryz.pinned (.plain (OpenSpec.upto fnFjBuildScriptSpec)) fnFjBuildScriptUptoCard
end Rows
end Go.Proofs.YtlhaefblchpjhaaGreatDoor
