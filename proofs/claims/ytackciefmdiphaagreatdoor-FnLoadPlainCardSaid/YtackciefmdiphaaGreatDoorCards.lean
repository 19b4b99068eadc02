/-
  DERIVED. GIVEN WITH THE SEED: THE CARDS: each row of YtackciefmdiphaaGreatDoorRows.lean that lists a variable, with what it lists TIED to the program's text (the seventh form; the later family's looks); each row that meets fmt, with fmt's text TOLD by the authors' own Lean function (tested against real Go, not proved from fmt's source: count such statements apart). THE CARD IS WHAT COUNTS. Prove the row's statement (the work); the ties are given (YtackciefmdiphaaGreatDoorTie.lean); close each card by the builder's one call (the guide's Derived/Test/ToyasCard.lean, 'card_holds'). Laid BY PROGRAM, IN A SANDBOX (cutbox-door.mjs). By AI agents, Wed Nov 11 2026. No macro, syntax, notation, axiom, sorry.
-/
import Derived.Test.YtackciefmdiphaaGreatDoorRows
import GoSem.ClaimSeven
namespace Go.Proofs.YtackciefmdiphaaGreatDoor
namespace Rows

/-- THE TIED CARD OF 'laws.FnExpand'. -/
def fnExpandCard : Claim7 := { stood := { row := fnExpandRow, standIns := [], harness := (true, "987a6c67e25918efa1498a1d464aa557c77be975eac26477b29b7e8f9be1b816"), looks := true }, kinds := [], alts := [], laidByText := true, laidKinds := [.data, .data, .data, .data, .sentinel, .sentinel, .pinned], laidTests := true, laidLooks := .later }
def FnExpandCardSaid : Prop := Claim7.holds Tryz.pinned (.plain (OpenSpec.ofChange fnExpandSpec)) fnExpandCard

/-- THE TIED CARD OF 'laws.FnLoadPlain'. -/
def fnLoadPlainCard : Claim7 := { stood := { row := fnLoadPlainRow, standIns := [], harness := (true, "987a6c67e25918efa1498a1d464aa557c77be975eac26477b29b7e8f9be1b816"), looks := true }, kinds := [], alts := [], laidByText := true, laidKinds := [.data, .data, .data, .data, .sentinel, .sentinel, .pinned], laidTests := true, laidLooks := .later }
def FnLoadPlainCardSaid : Prop := Claim7.holds Tryz.pinned (.plain (OpenSpec.ofChange fnLoadPlainSpec)) fnLoadPlainCard

/-- THE TIED CARD OF 'laws.FnLoadSays'. -/
def fnLoadSaysCard : Claim7 := { stood := { row := fnLoadSaysRow, standIns := [], harness := (true, "987a6c67e25918efa1498a1d464aa557c77be975eac26477b29b7e8f9be1b816"), looks := true }, kinds := [], alts := [], laidByText := true, laidKinds := [.data, .data, .data, .data, .sentinel, .sentinel, .pinned], laidTests := true, laidLooks := .later }
def FnLoadSaysCardSaid : Prop := Claim7.holds Tryz.pinned (.plain (OpenSpec.ofChange fnLoadSaysSpec)) fnLoadSaysCard

/-- THE TIED CARD OF 'laws.FnItems'. -/
def fnItemsCard : Claim7 := { stood := { row := fnItemsRow, standIns := [], harness := (true, "987a6c67e25918efa1498a1d464aa557c77be975eac26477b29b7e8f9be1b816"), looks := true }, kinds := [], alts := [], laidByText := true, laidKinds := [.data, .data, .data, .data, .sentinel, .sentinel, .pinned], laidTests := true, laidLooks := .later }
def FnItemsCardSaid : Prop := Claim7.holds Tryz.pinned (.plain (OpenSpec.ofChange fnItemsSpec)) fnItemsCard

/-- THE TIED CARD OF 'laws.FnPropsBack'. -/
def fnPropsBackCard : Claim7 := { stood := { row := fnPropsBackRow, standIns := [], harness := (true, "987a6c67e25918efa1498a1d464aa557c77be975eac26477b29b7e8f9be1b816"), looks := true }, kinds := [], alts := [], laidByText := true, laidKinds := [.data, .data, .data, .data, .sentinel, .sentinel, .listed, .pinned], laidTests := true, laidLooks := .later }
def FnPropsBackCardSaid : Prop := Claim7.holds Tryz.pinned (.plain (OpenSpec.ofChange fnPropsBackSpec)) fnPropsBackCard

/-- THE TIED CARD OF 'laws.FnScriptMerge'. -/
def fnScriptMergeCard : Claim7 := { stood := { row := fnScriptMergeRow, standIns := [], harness := (true, "987a6c67e25918efa1498a1d464aa557c77be975eac26477b29b7e8f9be1b816"), looks := true }, kinds := [], alts := [], laidByText := true, laidKinds := [.data, .data, .data, .data, .sentinel, .sentinel, .pinned], laidTests := true, laidLooks := .later }
def FnScriptMergeCardSaid : Prop := Claim7.holds Tryz.pinned (.plain (OpenSpec.ofChange fnScriptMergeSpec)) fnScriptMergeCard

/-- THE SECOND FORM's CARD OF 'laws.FnExpand'. -/
def fnExpandUptoCard : Claim7 := { stood := { row := fnExpandUptoRow, standIns := [], harness := (true, "987a6c67e25918efa1498a1d464aa557c77be975eac26477b29b7e8f9be1b816"), looks := true }, kinds := [], alts := [], laidByText := true, laidKinds := [.data, .data, .data, .data, .sentinel, .sentinel, .pinned], laidTests := true, laidLooks := .later }
def FnExpandUptoCardSaid : Prop := Claim7.holds Tryz.pinned (.plain (OpenSpec.upto fnExpandSpec)) fnExpandUptoCard

/-- THE SECOND FORM's CARD OF 'laws.FnLoadPlain'. -/
def fnLoadPlainUptoCard : Claim7 := { stood := { row := fnLoadPlainUptoRow, standIns := [], harness := (true, "987a6c67e25918efa1498a1d464aa557c77be975eac26477b29b7e8f9be1b816"), looks := true }, kinds := [], alts := [], laidByText := true, laidKinds := [.data, .data, .data, .data, .sentinel, .sentinel, .pinned], laidTests := true, laidLooks := .later }
def FnLoadPlainUptoCardSaid : Prop := Claim7.holds Tryz.pinned (.plain (OpenSpec.upto fnLoadPlainSpec)) fnLoadPlainUptoCard

/-- THE SECOND FORM's CARD OF 'laws.FnLoadSays'. -/
def fnLoadSaysUptoCard : Claim7 := { stood := { row := fnLoadSaysUptoRow, standIns := [], harness := (true, "987a6c67e25918efa1498a1d464aa557c77be975eac26477b29b7e8f9be1b816"), looks := true }, kinds := [], alts := [], laidByText := true, laidKinds := [.data, .data, .data, .data, .sentinel, .sentinel, .pinned], laidTests := true, laidLooks := .later }
def FnLoadSaysUptoCardSaid : Prop := Claim7.holds Tryz.pinned (.plain (OpenSpec.upto fnLoadSaysSpec)) fnLoadSaysUptoCard

/-- THE SECOND FORM's CARD OF 'laws.FnItems'. -/
def fnItemsUptoCard : Claim7 := { stood := { row := fnItemsUptoRow, standIns := [], harness := (true, "987a6c67e25918efa1498a1d464aa557c77be975eac26477b29b7e8f9be1b816"), looks := true }, kinds := [], alts := [], laidByText := true, laidKinds := [.data, .data, .data, .data, .sentinel, .sentinel, .pinned], laidTests := true, laidLooks := .later }
def FnItemsUptoCardSaid : Prop := Claim7.holds Tryz.pinned (.plain (OpenSpec.upto fnItemsSpec)) fnItemsUptoCard

/-- THE SECOND FORM's CARD OF 'laws.FnPropsBack'. -/
def fnPropsBackUptoCard : Claim7 := { stood := { row := fnPropsBackUptoRow, standIns := [], harness := (true, "987a6c67e25918efa1498a1d464aa557c77be975eac26477b29b7e8f9be1b816"), looks := true }, kinds := [], alts := [], laidByText := true, laidKinds := [.data, .data, .data, .data, .sentinel, .sentinel, .listed, .pinned], laidTests := true, laidLooks := .later }
def FnPropsBackUptoCardSaid : Prop := Claim7.holds Tryz.pinned (.plain (OpenSpec.upto fnPropsBackSpec)) fnPropsBackUptoCard

/-- THE SECOND FORM's CARD OF 'laws.FnScriptMerge'. -/
def fnScriptMergeUptoCard : Claim7 := { stood := { row := fnScriptMergeUptoRow, standIns := [], harness := (true, "987a6c67e25918efa1498a1d464aa557c77be975eac26477b29b7e8f9be1b816"), looks := true }, kinds := [], alts := [], laidByText := true, laidKinds := [.data, .data, .data, .data, .sentinel, .sentinel, .pinned], laidTests := true, laidLooks := .later }
def FnScriptMergeUptoCardSaid : Prop := Claim7.holds Tryz.pinned (.plain (OpenSpec.upto fnScriptMergeSpec)) fnScriptMergeUptoCard
end Rows
end Go.Proofs.YtackciefmdiphaaGreatDoor
