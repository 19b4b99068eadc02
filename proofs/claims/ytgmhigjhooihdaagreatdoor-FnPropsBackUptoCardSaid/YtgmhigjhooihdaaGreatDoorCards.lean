/-
  DERIVED. GIVEN WITH THE SEED: THE CARDS: each row of YtgmhigjhooihdaaGreatDoorRows.lean that lists a variable, with what it lists TIED to the program's text (the seventh form; the later family's looks); each row that meets fmt, with fmt's text TOLD by the authors' own Lean function (tested against real Go, not proved from fmt's source: count such statements apart). THE CARD IS WHAT COUNTS. Prove the row's statement (the work); the ties are given (YtgmhigjhooihdaaGreatDoorTie.lean); close each card by the builder's one call (the guide's Derived/Test/ToyasCard.lean, 'card_holds'). Laid BY PROGRAM, IN A SANDBOX (cutbox-door.mjs). By AI agents, Wed Nov 11 2026. No macro, syntax, notation, axiom, sorry.
-/
import Derived.Test.YtgmhigjhooihdaaGreatDoorRows
import GoSem.ClaimSeven
namespace Go.Proofs.YtgmhigjhooihdaaGreatDoor
namespace Rows

/-- THE TIED CARD OF 'laws.FnScriptFilters'. -/
def fnScriptFiltersCard : Claim7 := { stood := { row := fnScriptFiltersRow, standIns := [], harness := (true, "68a5c7dd90c14106b77491a0fedf7da97eb224545e41a00471a1ce6466fd8d55"), looks := true }, kinds := [], alts := [], laidByText := true, laidKinds := [.data, .data, .data, .data, .sentinel, .sentinel, .pinned], laidTests := true, laidLooks := .later }
def FnScriptFiltersCardSaid : Prop := Claim7.holds Tryz.pinned (.plain (OpenSpec.ofChange fnScriptFiltersSpec)) fnScriptFiltersCard

/-- THE TIED CARD OF 'laws.FnScriptTwice'. -/
def fnScriptTwiceCard : Claim7 := { stood := { row := fnScriptTwiceRow, standIns := [], harness := (true, "68a5c7dd90c14106b77491a0fedf7da97eb224545e41a00471a1ce6466fd8d55"), looks := true }, kinds := [], alts := [], laidByText := true, laidKinds := [.data, .data, .data, .data, .sentinel, .sentinel, .pinned], laidTests := true, laidLooks := .later }
def FnScriptTwiceCardSaid : Prop := Claim7.holds Tryz.pinned (.plain (OpenSpec.ofChange fnScriptTwiceSpec)) fnScriptTwiceCard

/-- THE TIED CARD OF 'laws.FnLoadSays'. -/
def fnLoadSaysCard : Claim7 := { stood := { row := fnLoadSaysRow, standIns := [], harness := (true, "68a5c7dd90c14106b77491a0fedf7da97eb224545e41a00471a1ce6466fd8d55"), looks := true }, kinds := [], alts := [], laidByText := true, laidKinds := [.data, .data, .data, .data, .sentinel, .sentinel, .pinned], laidTests := true, laidLooks := .later }
def FnLoadSaysCardSaid : Prop := Claim7.holds Tryz.pinned (.plain (OpenSpec.ofChange fnLoadSaysSpec)) fnLoadSaysCard

/-- THE TIED CARD OF 'laws.FnPropsBack'. -/
def fnPropsBackCard : Claim7 := { stood := { row := fnPropsBackRow, standIns := [], harness := (true, "68a5c7dd90c14106b77491a0fedf7da97eb224545e41a00471a1ce6466fd8d55"), looks := true }, kinds := [], alts := [], laidByText := true, laidKinds := [.data, .data, .data, .data, .sentinel, .sentinel, .listed, .pinned], laidTests := true, laidLooks := .later }
def FnPropsBackCardSaid : Prop := Claim7.holds Tryz.pinned (.plain (OpenSpec.ofChange fnPropsBackSpec)) fnPropsBackCard

/-- THE SECOND FORM's CARD OF 'laws.FnScriptFilters'. -/
def fnScriptFiltersUptoCard : Claim7 := { stood := { row := fnScriptFiltersUptoRow, standIns := [], harness := (true, "68a5c7dd90c14106b77491a0fedf7da97eb224545e41a00471a1ce6466fd8d55"), looks := true }, kinds := [], alts := [], laidByText := true, laidKinds := [.data, .data, .data, .data, .sentinel, .sentinel, .pinned], laidTests := true, laidLooks := .later }
def FnScriptFiltersUptoCardSaid : Prop := Claim7.holds Tryz.pinned (.plain (OpenSpec.upto fnScriptFiltersSpec)) fnScriptFiltersUptoCard

/-- THE SECOND FORM's CARD OF 'laws.FnScriptTwice'. -/
def fnScriptTwiceUptoCard : Claim7 := { stood := { row := fnScriptTwiceUptoRow, standIns := [], harness := (true, "68a5c7dd90c14106b77491a0fedf7da97eb224545e41a00471a1ce6466fd8d55"), looks := true }, kinds := [], alts := [], laidByText := true, laidKinds := [.data, .data, .data, .data, .sentinel, .sentinel, .pinned], laidTests := true, laidLooks := .later }
def FnScriptTwiceUptoCardSaid : Prop := Claim7.holds Tryz.pinned (.plain (OpenSpec.upto fnScriptTwiceSpec)) fnScriptTwiceUptoCard

/-- THE SECOND FORM's CARD OF 'laws.FnLoadSays'. -/
def fnLoadSaysUptoCard : Claim7 := { stood := { row := fnLoadSaysUptoRow, standIns := [], harness := (true, "68a5c7dd90c14106b77491a0fedf7da97eb224545e41a00471a1ce6466fd8d55"), looks := true }, kinds := [], alts := [], laidByText := true, laidKinds := [.data, .data, .data, .data, .sentinel, .sentinel, .pinned], laidTests := true, laidLooks := .later }
def FnLoadSaysUptoCardSaid : Prop := Claim7.holds Tryz.pinned (.plain (OpenSpec.upto fnLoadSaysSpec)) fnLoadSaysUptoCard

/-- THE SECOND FORM's CARD OF 'laws.FnPropsBack'. -/
def fnPropsBackUptoCard : Claim7 := { stood := { row := fnPropsBackUptoRow, standIns := [], harness := (true, "68a5c7dd90c14106b77491a0fedf7da97eb224545e41a00471a1ce6466fd8d55"), looks := true }, kinds := [], alts := [], laidByText := true, laidKinds := [.data, .data, .data, .data, .sentinel, .sentinel, .listed, .pinned], laidTests := true, laidLooks := .later }
def FnPropsBackUptoCardSaid : Prop := Claim7.holds Tryz.pinned (.plain (OpenSpec.upto fnPropsBackSpec)) fnPropsBackUptoCard
end Rows
end Go.Proofs.YtgmhigjhooihdaaGreatDoor
