/-
  DERIVED. GIVEN WITH THE SEED: THE CARDS: each row of YtpbehdlgmpmkaaaDoorRows.lean that lists a variable, with what it lists TIED to the program's text (the seventh form; the later family's looks); each row that meets fmt, with fmt's text TOLD by the authors' own Lean function (tested against real Go, not proved from fmt's source: count such statements apart). THE CARD IS WHAT COUNTS. Prove the row's statement (the work); the ties are given (YtpbehdlgmpmkaaaDoorTie.lean); close each card by the builder's one call (the guide's Derived/Test/ToyasCard.lean, 'card_holds'). Laid BY PROGRAM, IN A SANDBOX (cutbox-door.mjs). By AI agents, Wed Nov 11 2026. No macro, syntax, notation, axiom, sorry.
-/
import Derived.Test.YtpbehdlgmpmkaaaDoorRows
import GoSem.ClaimSeven
namespace Go.Proofs.YtpbehdlgmpmkaaaDoor
namespace Rows

/-- THE TIED CARD OF 'laws.FnDelimitedSays'. -/
def fnDelimitedSaysCard : Claim7 := { stood := { row := fnDelimitedSaysRow, standIns := [], harness := (true, "fd680a34a4141a0757703d2b555ed7f8991ed8feef31978cc152687925264ed8"), looks := false }, kinds := [], alts := [], laidByText := true, laidKinds := [.data, .listed, .data, .pinned], laidTests := true, laidLooks := .later }
def FnDelimitedSaysCardSaid : Prop := Claim7.holds Tryd.pinned (.plain (OpenSpec.ofChange fnDelimitedSaysSpec)) fnDelimitedSaysCard

/-- THE TIED CARD OF 'laws.FnSnakeTwice'. -/
def fnSnakeTwiceCard : Claim7 := { stood := { row := fnSnakeTwiceRow, standIns := [], harness := (true, "fd680a34a4141a0757703d2b555ed7f8991ed8feef31978cc152687925264ed8"), looks := false }, kinds := [], alts := [], laidByText := true, laidKinds := [.data, .listed, .data, .pinned], laidTests := true, laidLooks := .later }
def FnSnakeTwiceCardSaid : Prop := Claim7.holds Tryd.pinned (.plain (OpenSpec.ofChange fnSnakeTwiceSpec)) fnSnakeTwiceCard

/-- THE TIED CARD OF 'laws.FnScreaming'. -/
def fnScreamingCard : Claim7 := { stood := { row := fnScreamingRow, standIns := [], harness := (true, "fd680a34a4141a0757703d2b555ed7f8991ed8feef31978cc152687925264ed8"), looks := false }, kinds := [], alts := [], laidByText := true, laidKinds := [.data, .listed, .data, .pinned], laidTests := true, laidLooks := .later }
def FnScreamingCardSaid : Prop := Claim7.holds Tryd.pinned (.plain (OpenSpec.ofChange fnScreamingSpec)) fnScreamingCard

/-- THE TIED CARD OF 'laws.FnDelimitedRoads'. -/
def fnDelimitedRoadsCard : Claim7 := { stood := { row := fnDelimitedRoadsRow, standIns := [], harness := (true, "fd680a34a4141a0757703d2b555ed7f8991ed8feef31978cc152687925264ed8"), looks := false }, kinds := [], alts := [], laidByText := true, laidKinds := [.data, .listed, .data, .pinned], laidTests := true, laidLooks := .later }
def FnDelimitedRoadsCardSaid : Prop := Claim7.holds Tryd.pinned (.plain (OpenSpec.ofChange fnDelimitedRoadsSpec)) fnDelimitedRoadsCard

/-- THE SECOND FORM's CARD OF 'laws.FnDelimitedSays'. -/
def fnDelimitedSaysUptoCard : Claim7 := { stood := { row := fnDelimitedSaysUptoRow, standIns := [], harness := (true, "fd680a34a4141a0757703d2b555ed7f8991ed8feef31978cc152687925264ed8"), looks := false }, kinds := [], alts := [], laidByText := true, laidKinds := [.data, .listed, .data, .pinned], laidTests := true, laidLooks := .later }
def FnDelimitedSaysUptoCardSaid : Prop := Claim7.holds Tryd.pinned (.plain (OpenSpec.upto fnDelimitedSaysSpec)) fnDelimitedSaysUptoCard

/-- THE SECOND FORM's CARD OF 'laws.FnSnakeTwice'. -/
def fnSnakeTwiceUptoCard : Claim7 := { stood := { row := fnSnakeTwiceUptoRow, standIns := [], harness := (true, "fd680a34a4141a0757703d2b555ed7f8991ed8feef31978cc152687925264ed8"), looks := false }, kinds := [], alts := [], laidByText := true, laidKinds := [.data, .listed, .data, .pinned], laidTests := true, laidLooks := .later }
def FnSnakeTwiceUptoCardSaid : Prop := Claim7.holds Tryd.pinned (.plain (OpenSpec.upto fnSnakeTwiceSpec)) fnSnakeTwiceUptoCard

/-- THE SECOND FORM's CARD OF 'laws.FnScreaming'. -/
def fnScreamingUptoCard : Claim7 := { stood := { row := fnScreamingUptoRow, standIns := [], harness := (true, "fd680a34a4141a0757703d2b555ed7f8991ed8feef31978cc152687925264ed8"), looks := false }, kinds := [], alts := [], laidByText := true, laidKinds := [.data, .listed, .data, .pinned], laidTests := true, laidLooks := .later }
def FnScreamingUptoCardSaid : Prop := Claim7.holds Tryd.pinned (.plain (OpenSpec.upto fnScreamingSpec)) fnScreamingUptoCard

/-- THE SECOND FORM's CARD OF 'laws.FnDelimitedRoads'. -/
def fnDelimitedRoadsUptoCard : Claim7 := { stood := { row := fnDelimitedRoadsUptoRow, standIns := [], harness := (true, "fd680a34a4141a0757703d2b555ed7f8991ed8feef31978cc152687925264ed8"), looks := false }, kinds := [], alts := [], laidByText := true, laidKinds := [.data, .listed, .data, .pinned], laidTests := true, laidLooks := .later }
def FnDelimitedRoadsUptoCardSaid : Prop := Claim7.holds Tryd.pinned (.plain (OpenSpec.upto fnDelimitedRoadsSpec)) fnDelimitedRoadsUptoCard
end Rows
end Go.Proofs.YtpbehdlgmpmkaaaDoor
