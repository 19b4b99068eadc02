/-
  DERIVED. GIVEN WITH THE SEED: THE CARDS: each row of YtdgaehkfdaacjaaDoorRows.lean that lists a variable, with what it lists TIED to the program's text (the seventh form; the later family's looks); each row that meets fmt, with fmt's text TOLD by the authors' own Lean function (tested against real Go, not proved from fmt's source: count such statements apart). THE CARD IS WHAT COUNTS. Prove the row's statement (the work); the ties are given (YtdgaehkfdaacjaaDoorTie.lean); close each card by the builder's one call (the guide's Derived/Test/ToyasCard.lean, 'card_holds'). Laid BY PROGRAM, IN A SANDBOX (cutbox-door.mjs). By AI agents, Wed Nov 11 2026. No macro, syntax, notation, axiom, sorry.
-/
import Derived.Test.YtdgaehkfdaacjaaDoorRows
import GoSem.ClaimSeven
namespace Go.Proofs.YtdgaehkfdaacjaaDoor
namespace Rows

/-- THE TIED CARD OF 'laws.FnHasPattern'. -/
def fnHasPatternCard : Claim7 := { stood := { row := fnHasPatternRow, standIns := [], harness := (true, "ef6ec20c14562ee70fb45d03414f27c7f59d7964f210b39fa14d3735edb8f6d7"), looks := false }, kinds := [], alts := [], laidByText := true, laidKinds := [.data, .pinned], laidTests := true, laidLooks := .later }
def FnHasPatternCardSaid : Prop := Claim7.holds Tryd.pinned (.plain (OpenSpec.ofChange fnHasPatternSpec)) fnHasPatternCard

/-- THE TIED CARD OF 'laws.FnSqueeze'. -/
def fnSqueezeCard : Claim7 := { stood := { row := fnSqueezeRow, standIns := [], harness := (true, "ef6ec20c14562ee70fb45d03414f27c7f59d7964f210b39fa14d3735edb8f6d7"), looks := false }, kinds := [], alts := [], laidByText := true, laidKinds := [.data, .pinned], laidTests := true, laidLooks := .later }
def FnSqueezeCardSaid : Prop := Claim7.holds Tryd.pinned (.plain (OpenSpec.ofChange fnSqueezeSpec)) fnSqueezeCard

/-- THE TIED CARD OF 'laws.FnDelete'. -/
def fnDeleteCard : Claim7 := { stood := { row := fnDeleteRow, standIns := [], harness := (true, "ef6ec20c14562ee70fb45d03414f27c7f59d7964f210b39fa14d3735edb8f6d7"), looks := false }, kinds := [], alts := [], laidByText := true, laidKinds := [.data, .pinned], laidTests := true, laidLooks := .later }
def FnDeleteCardSaid : Prop := Claim7.holds Tryd.pinned (.plain (OpenSpec.ofChange fnDeleteSpec)) fnDeleteCard

/-- THE TIED CARD OF 'laws.FnTranslateLast'. -/
def fnTranslateLastCard : Claim7 := { stood := { row := fnTranslateLastRow, standIns := [], harness := (true, "ef6ec20c14562ee70fb45d03414f27c7f59d7964f210b39fa14d3735edb8f6d7"), looks := false }, kinds := [], alts := [], laidByText := true, laidKinds := [.data, .pinned], laidTests := true, laidLooks := .later }
def FnTranslateLastCardSaid : Prop := Claim7.holds Tryd.pinned (.plain (OpenSpec.ofChange fnTranslateLastSpec)) fnTranslateLastCard

/-- THE TIED CARD OF 'laws.FnTranslateAll'. -/
def fnTranslateAllCard : Claim7 := { stood := { row := fnTranslateAllRow, standIns := [], harness := (true, "ef6ec20c14562ee70fb45d03414f27c7f59d7964f210b39fa14d3735edb8f6d7"), looks := false }, kinds := [], alts := [], laidByText := true, laidKinds := [.data, .pinned], laidTests := true, laidLooks := .later }
def FnTranslateAllCardSaid : Prop := Claim7.holds Tryd.pinned (.plain (OpenSpec.ofChange fnTranslateAllSpec)) fnTranslateAllCard

/-- THE TIED CARD OF 'laws.FnDeleteTwice'. -/
def fnDeleteTwiceCard : Claim7 := { stood := { row := fnDeleteTwiceRow, standIns := [], harness := (true, "ef6ec20c14562ee70fb45d03414f27c7f59d7964f210b39fa14d3735edb8f6d7"), looks := false }, kinds := [], alts := [], laidByText := true, laidKinds := [.data, .pinned], laidTests := true, laidLooks := .later }
def FnDeleteTwiceCardSaid : Prop := Claim7.holds Tryd.pinned (.plain (OpenSpec.ofChange fnDeleteTwiceSpec)) fnDeleteTwiceCard

/-- THE TIED CARD OF 'laws.FnTranslateJoined'. -/
def fnTranslateJoinedCard : Claim7 := { stood := { row := fnTranslateJoinedRow, standIns := [], harness := (true, "ef6ec20c14562ee70fb45d03414f27c7f59d7964f210b39fa14d3735edb8f6d7"), looks := false }, kinds := [], alts := [], laidByText := true, laidKinds := [.data, .pinned], laidTests := true, laidLooks := .later }
def FnTranslateJoinedCardSaid : Prop := Claim7.holds Tryd.pinned (.plain (OpenSpec.ofChange fnTranslateJoinedSpec)) fnTranslateJoinedCard

/-- THE SECOND FORM's CARD OF 'laws.FnHasPattern'. -/
def fnHasPatternUptoCard : Claim7 := { stood := { row := fnHasPatternUptoRow, standIns := [], harness := (true, "ef6ec20c14562ee70fb45d03414f27c7f59d7964f210b39fa14d3735edb8f6d7"), looks := false }, kinds := [], alts := [], laidByText := true, laidKinds := [.data, .pinned], laidTests := true, laidLooks := .later }
def FnHasPatternUptoCardSaid : Prop := Claim7.holds Tryd.pinned (.plain (OpenSpec.upto fnHasPatternSpec)) fnHasPatternUptoCard

/-- THE SECOND FORM's CARD OF 'laws.FnSqueeze'. -/
def fnSqueezeUptoCard : Claim7 := { stood := { row := fnSqueezeUptoRow, standIns := [], harness := (true, "ef6ec20c14562ee70fb45d03414f27c7f59d7964f210b39fa14d3735edb8f6d7"), looks := false }, kinds := [], alts := [], laidByText := true, laidKinds := [.data, .pinned], laidTests := true, laidLooks := .later }
def FnSqueezeUptoCardSaid : Prop := Claim7.holds Tryd.pinned (.plain (OpenSpec.upto fnSqueezeSpec)) fnSqueezeUptoCard

/-- THE SECOND FORM's CARD OF 'laws.FnDelete'. -/
def fnDeleteUptoCard : Claim7 := { stood := { row := fnDeleteUptoRow, standIns := [], harness := (true, "ef6ec20c14562ee70fb45d03414f27c7f59d7964f210b39fa14d3735edb8f6d7"), looks := false }, kinds := [], alts := [], laidByText := true, laidKinds := [.data, .pinned], laidTests := true, laidLooks := .later }
def FnDeleteUptoCardSaid : Prop := Claim7.holds Tryd.pinned (.plain (OpenSpec.upto fnDeleteSpec)) fnDeleteUptoCard

/-- THE SECOND FORM's CARD OF 'laws.FnTranslateLast'. -/
def fnTranslateLastUptoCard : Claim7 := { stood := { row := fnTranslateLastUptoRow, standIns := [], harness := (true, "ef6ec20c14562ee70fb45d03414f27c7f59d7964f210b39fa14d3735edb8f6d7"), looks := false }, kinds := [], alts := [], laidByText := true, laidKinds := [.data, .pinned], laidTests := true, laidLooks := .later }
def FnTranslateLastUptoCardSaid : Prop := Claim7.holds Tryd.pinned (.plain (OpenSpec.upto fnTranslateLastSpec)) fnTranslateLastUptoCard

/-- THE SECOND FORM's CARD OF 'laws.FnTranslateAll'. -/
def fnTranslateAllUptoCard : Claim7 := { stood := { row := fnTranslateAllUptoRow, standIns := [], harness := (true, "ef6ec20c14562ee70fb45d03414f27c7f59d7964f210b39fa14d3735edb8f6d7"), looks := false }, kinds := [], alts := [], laidByText := true, laidKinds := [.data, .pinned], laidTests := true, laidLooks := .later }
def FnTranslateAllUptoCardSaid : Prop := Claim7.holds Tryd.pinned (.plain (OpenSpec.upto fnTranslateAllSpec)) fnTranslateAllUptoCard

/-- THE SECOND FORM's CARD OF 'laws.FnDeleteTwice'. -/
def fnDeleteTwiceUptoCard : Claim7 := { stood := { row := fnDeleteTwiceUptoRow, standIns := [], harness := (true, "ef6ec20c14562ee70fb45d03414f27c7f59d7964f210b39fa14d3735edb8f6d7"), looks := false }, kinds := [], alts := [], laidByText := true, laidKinds := [.data, .pinned], laidTests := true, laidLooks := .later }
def FnDeleteTwiceUptoCardSaid : Prop := Claim7.holds Tryd.pinned (.plain (OpenSpec.upto fnDeleteTwiceSpec)) fnDeleteTwiceUptoCard

/-- THE SECOND FORM's CARD OF 'laws.FnTranslateJoined'. -/
def fnTranslateJoinedUptoCard : Claim7 := { stood := { row := fnTranslateJoinedUptoRow, standIns := [], harness := (true, "ef6ec20c14562ee70fb45d03414f27c7f59d7964f210b39fa14d3735edb8f6d7"), looks := false }, kinds := [], alts := [], laidByText := true, laidKinds := [.data, .pinned], laidTests := true, laidLooks := .later }
def FnTranslateJoinedUptoCardSaid : Prop := Claim7.holds Tryd.pinned (.plain (OpenSpec.upto fnTranslateJoinedSpec)) fnTranslateJoinedUptoCard
end Rows
end Go.Proofs.YtdgaehkfdaacjaaDoor
