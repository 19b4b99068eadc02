/-
  DERIVED. GIVEN WITH THE SEED: THE CARDS: each row of YtdomnccokhhieaaDoorRows.lean that lists a variable, with what it lists TIED to the program's text (the seventh form; the later family's looks); each row that meets fmt, with fmt's text TOLD by the authors' own Lean function (tested against real Go, not proved from fmt's source: count such statements apart). THE CARD IS WHAT COUNTS. Prove the row's statement (the work); the ties are given (YtdomnccokhhieaaDoorTie.lean); close each card by the builder's one call (the guide's Derived/Test/ToyasCard.lean, 'card_holds'). Laid BY PROGRAM, IN A SANDBOX (cutbox-door.mjs). By AI agents, Wed Nov 11 2026. No macro, syntax, notation, axiom, sorry.
-/
import Derived.Test.YtdomnccokhhieaaDoorRows
import GoSem.ClaimSeven
namespace Go.Proofs.YtdomnccokhhieaaDoor
namespace Rows

/-- THE TIED CARD OF 'laws.FnSuccessor'. -/
def fnSuccessorCard : Claim7 := { stood := { row := fnSuccessorRow, standIns := [], harness := (true, "13927362db434446a297490f148ae3a6cb0681f146084f667b5e2e084e80b1e7"), looks := false }, kinds := [], alts := [], laidByText := true, laidKinds := [.data, .pinned], laidTests := true, laidLooks := .later }
def FnSuccessorCardSaid : Prop := Claim7.holds Tryd.pinned (.plain (OpenSpec.ofChange fnSuccessorSpec)) fnSuccessorCard

/-- THE TIED CARD OF 'laws.FnScrubTwice'. -/
def fnScrubTwiceCard : Claim7 := { stood := { row := fnScrubTwiceRow, standIns := [], harness := (true, "13927362db434446a297490f148ae3a6cb0681f146084f667b5e2e084e80b1e7"), looks := false }, kinds := [], alts := [], laidByText := true, laidKinds := [.data, .pinned], laidTests := true, laidLooks := .later }
def FnScrubTwiceCardSaid : Prop := Claim7.holds Tryd.pinned (.plain (OpenSpec.ofChange fnScrubTwiceSpec)) fnScrubTwiceCard

/-- THE TIED CARD OF 'laws.FnWordsApart'. -/
def fnWordsApartCard : Claim7 := { stood := { row := fnWordsApartRow, standIns := [], harness := (true, "13927362db434446a297490f148ae3a6cb0681f146084f667b5e2e084e80b1e7"), looks := false }, kinds := [], alts := [], laidByText := true, laidKinds := [.data, .data, .pinned, .pinned], laidTests := true, laidLooks := .later }
def FnWordsApartCardSaid : Prop := Claim7.holds Tryd.pinned (.plain (OpenSpec.ofChange fnWordsApartSpec)) fnWordsApartCard

/-- THE TIED CARD OF 'laws.FnWordCount'. -/
def fnWordCountCard : Claim7 := { stood := { row := fnWordCountRow, standIns := [], harness := (true, "13927362db434446a297490f148ae3a6cb0681f146084f667b5e2e084e80b1e7"), looks := false }, kinds := [], alts := [], laidByText := true, laidKinds := [.data, .data, .pinned, .pinned], laidTests := true, laidLooks := .later }
def FnWordCountCardSaid : Prop := Claim7.holds Tryd.pinned (.plain (OpenSpec.ofChange fnWordCountSpec)) fnWordCountCard

/-- THE TIED CARD OF 'laws.FnExpandTabsLines'. -/
def fnExpandTabsLinesCard : Claim7 := { stood := { row := fnExpandTabsLinesRow, standIns := [], harness := (true, "13927362db434446a297490f148ae3a6cb0681f146084f667b5e2e084e80b1e7"), looks := false }, kinds := [], alts := [], laidByText := true, laidKinds := [.data, .pinned], laidTests := true, laidLooks := .later }
def FnExpandTabsLinesCardSaid : Prop := Claim7.holds Tryd.pinned (.plain (OpenSpec.ofChange fnExpandTabsLinesSpec)) fnExpandTabsLinesCard

/-- THE TIED CARD OF 'laws.FnSwapTwice'. -/
def fnSwapTwiceCard : Claim7 := { stood := { row := fnSwapTwiceRow, standIns := [], harness := (true, "13927362db434446a297490f148ae3a6cb0681f146084f667b5e2e084e80b1e7"), looks := false }, kinds := [], alts := [], laidByText := true, laidKinds := [.data, .data, .pinned, .pinned, .pinned, .pinned], laidTests := true, laidLooks := .later }
def FnSwapTwiceCardSaid : Prop := Claim7.holds Tryd.pinned (.plain (OpenSpec.ofChange fnSwapTwiceSpec)) fnSwapTwiceCard

/-- THE TIED CARD OF 'laws.FnXPascal'. -/
def fnXPascalCard : Claim7 := { stood := { row := fnXPascalRow, standIns := [], harness := (true, "13927362db434446a297490f148ae3a6cb0681f146084f667b5e2e084e80b1e7"), looks := false }, kinds := [], alts := [], laidByText := true, laidKinds := [.data, .listed, .data, .pinned, .pinned, .pinned], laidTests := true, laidLooks := .later }
def FnXPascalCardSaid : Prop := Claim7.holds Tryd.pinned (.plain (OpenSpec.ofChange fnXPascalSpec)) fnXPascalCard

/-- THE SECOND FORM's CARD OF 'laws.FnSuccessor'. -/
def fnSuccessorUptoCard : Claim7 := { stood := { row := fnSuccessorUptoRow, standIns := [], harness := (true, "13927362db434446a297490f148ae3a6cb0681f146084f667b5e2e084e80b1e7"), looks := false }, kinds := [], alts := [], laidByText := true, laidKinds := [.data, .pinned], laidTests := true, laidLooks := .later }
def FnSuccessorUptoCardSaid : Prop := Claim7.holds Tryd.pinned (.plain (OpenSpec.upto fnSuccessorSpec)) fnSuccessorUptoCard

/-- THE SECOND FORM's CARD OF 'laws.FnScrubTwice'. -/
def fnScrubTwiceUptoCard : Claim7 := { stood := { row := fnScrubTwiceUptoRow, standIns := [], harness := (true, "13927362db434446a297490f148ae3a6cb0681f146084f667b5e2e084e80b1e7"), looks := false }, kinds := [], alts := [], laidByText := true, laidKinds := [.data, .pinned], laidTests := true, laidLooks := .later }
def FnScrubTwiceUptoCardSaid : Prop := Claim7.holds Tryd.pinned (.plain (OpenSpec.upto fnScrubTwiceSpec)) fnScrubTwiceUptoCard

/-- THE SECOND FORM's CARD OF 'laws.FnWordsApart'. -/
def fnWordsApartUptoCard : Claim7 := { stood := { row := fnWordsApartUptoRow, standIns := [], harness := (true, "13927362db434446a297490f148ae3a6cb0681f146084f667b5e2e084e80b1e7"), looks := false }, kinds := [], alts := [], laidByText := true, laidKinds := [.data, .data, .pinned, .pinned], laidTests := true, laidLooks := .later }
def FnWordsApartUptoCardSaid : Prop := Claim7.holds Tryd.pinned (.plain (OpenSpec.upto fnWordsApartSpec)) fnWordsApartUptoCard

/-- THE SECOND FORM's CARD OF 'laws.FnWordCount'. -/
def fnWordCountUptoCard : Claim7 := { stood := { row := fnWordCountUptoRow, standIns := [], harness := (true, "13927362db434446a297490f148ae3a6cb0681f146084f667b5e2e084e80b1e7"), looks := false }, kinds := [], alts := [], laidByText := true, laidKinds := [.data, .data, .pinned, .pinned], laidTests := true, laidLooks := .later }
def FnWordCountUptoCardSaid : Prop := Claim7.holds Tryd.pinned (.plain (OpenSpec.upto fnWordCountSpec)) fnWordCountUptoCard

/-- THE SECOND FORM's CARD OF 'laws.FnExpandTabsLines'. -/
def fnExpandTabsLinesUptoCard : Claim7 := { stood := { row := fnExpandTabsLinesUptoRow, standIns := [], harness := (true, "13927362db434446a297490f148ae3a6cb0681f146084f667b5e2e084e80b1e7"), looks := false }, kinds := [], alts := [], laidByText := true, laidKinds := [.data, .pinned], laidTests := true, laidLooks := .later }
def FnExpandTabsLinesUptoCardSaid : Prop := Claim7.holds Tryd.pinned (.plain (OpenSpec.upto fnExpandTabsLinesSpec)) fnExpandTabsLinesUptoCard

/-- THE SECOND FORM's CARD OF 'laws.FnSwapTwice'. -/
def fnSwapTwiceUptoCard : Claim7 := { stood := { row := fnSwapTwiceUptoRow, standIns := [], harness := (true, "13927362db434446a297490f148ae3a6cb0681f146084f667b5e2e084e80b1e7"), looks := false }, kinds := [], alts := [], laidByText := true, laidKinds := [.data, .data, .pinned, .pinned, .pinned, .pinned], laidTests := true, laidLooks := .later }
def FnSwapTwiceUptoCardSaid : Prop := Claim7.holds Tryd.pinned (.plain (OpenSpec.upto fnSwapTwiceSpec)) fnSwapTwiceUptoCard

/-- THE SECOND FORM's CARD OF 'laws.FnXPascal'. -/
def fnXPascalUptoCard : Claim7 := { stood := { row := fnXPascalUptoRow, standIns := [], harness := (true, "13927362db434446a297490f148ae3a6cb0681f146084f667b5e2e084e80b1e7"), looks := false }, kinds := [], alts := [], laidByText := true, laidKinds := [.data, .listed, .data, .pinned, .pinned, .pinned], laidTests := true, laidLooks := .later }
def FnXPascalUptoCardSaid : Prop := Claim7.holds Tryd.pinned (.plain (OpenSpec.upto fnXPascalSpec)) fnXPascalUptoCard
end Rows
end Go.Proofs.YtdomnccokhhieaaDoor
