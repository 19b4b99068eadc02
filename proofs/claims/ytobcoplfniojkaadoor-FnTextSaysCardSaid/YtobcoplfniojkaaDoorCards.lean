/-
  DERIVED. GIVEN WITH THE SEED: THE CARDS: each row of YtobcoplfniojkaaDoorRows.lean that lists a variable, with what it lists TIED to the program's text (the seventh form; the later family's looks); each row that meets fmt, with fmt's text TOLD by the authors' own Lean function (tested against real Go, not proved from fmt's source: count such statements apart). THE CARD IS WHAT COUNTS. Prove the row's statement (the work); the ties are given (YtobcoplfniojkaaDoorTie.lean); close each card by the builder's one call (the guide's Derived/Test/ToyasCard.lean, 'card_holds'). Laid BY PROGRAM, IN A SANDBOX (cutbox-door.mjs). By AI agents, Wed Nov 11 2026. No macro, syntax, notation, axiom, sorry.
-/
import Derived.Test.YtobcoplfniojkaaDoorRows
import GoSem.ClaimSeven
namespace Go.Proofs.YtobcoplfniojkaaDoor
namespace Rows

/-- THE TIED CARD OF 'laws.FnLen'. -/
def fnLenCard : Claim7 := { stood := { row := fnLenRow, standIns := [], harness := (true, "ca8568bfd995c7b77fe4fe72e8803a838651555912d7c5df6504bbce9c266f51"), looks := false }, kinds := [], alts := [], laidByText := true, laidKinds := [.data, .pinned], laidTests := true, laidLooks := .later }
def FnLenCardSaid : Prop := Claim7.holds Tryd.pinned (.plain (OpenSpec.ofChange fnLenSpec)) fnLenCard

/-- THE TIED CARD OF 'laws.FnReverseTwice'. -/
def fnReverseTwiceCard : Claim7 := { stood := { row := fnReverseTwiceRow, standIns := [], harness := (true, "ca8568bfd995c7b77fe4fe72e8803a838651555912d7c5df6504bbce9c266f51"), looks := false }, kinds := [], alts := [], laidByText := true, laidKinds := [.data, .pinned], laidTests := true, laidLooks := .later }
def FnReverseTwiceCardSaid : Prop := Claim7.holds Tryd.pinned (.plain (OpenSpec.ofChange fnReverseTwiceSpec)) fnReverseTwiceCard

/-- THE TIED CARD OF 'laws.FnWidthPlain'. -/
def fnWidthPlainCard : Claim7 := { stood := { row := fnWidthPlainRow, standIns := [], harness := (true, "ca8568bfd995c7b77fe4fe72e8803a838651555912d7c5df6504bbce9c266f51"), looks := false }, kinds := [], alts := [], laidByText := true, laidKinds := [.data, .pinned], laidTests := true, laidLooks := .later }
def FnWidthPlainCardSaid : Prop := Claim7.holds Tryd.pinned (.plain (OpenSpec.ofChange fnWidthPlainSpec)) fnWidthPlainCard

/-- THE TIED CARD OF 'laws.FnSlice'. -/
def fnSliceCard : Claim7 := { stood := { row := fnSliceRow, standIns := [], harness := (true, "ca8568bfd995c7b77fe4fe72e8803a838651555912d7c5df6504bbce9c266f51"), looks := false }, kinds := [], alts := [], laidByText := true, laidKinds := [.data, .pinned], laidTests := true, laidLooks := .later }
def FnSliceCardSaid : Prop := Claim7.holds Tryd.pinned (.plain (OpenSpec.ofChange fnSliceSpec)) fnSliceCard

/-- THE TIED CARD OF 'laws.FnInsert'. -/
def fnInsertCard : Claim7 := { stood := { row := fnInsertRow, standIns := [], harness := (true, "ca8568bfd995c7b77fe4fe72e8803a838651555912d7c5df6504bbce9c266f51"), looks := false }, kinds := [], alts := [], laidByText := true, laidKinds := [.data, .pinned], laidTests := true, laidLooks := .later }
def FnInsertCardSaid : Prop := Claim7.holds Tryd.pinned (.plain (OpenSpec.ofChange fnInsertSpec)) fnInsertCard

/-- THE TIED CARD OF 'laws.FnRightJustify'. -/
def fnRightJustifyCard : Claim7 := { stood := { row := fnRightJustifyRow, standIns := [], harness := (true, "ca8568bfd995c7b77fe4fe72e8803a838651555912d7c5df6504bbce9c266f51"), looks := false }, kinds := [], alts := [], laidByText := true, laidKinds := [.data, .pinned], laidTests := true, laidLooks := .later }
def FnRightJustifyCardSaid : Prop := Claim7.holds Tryd.pinned (.plain (OpenSpec.ofChange fnRightJustifySpec)) fnRightJustifyCard

/-- THE TIED CARD OF 'laws.FnJustifyTurned'. -/
def fnJustifyTurnedCard : Claim7 := { stood := { row := fnJustifyTurnedRow, standIns := [], harness := (true, "ca8568bfd995c7b77fe4fe72e8803a838651555912d7c5df6504bbce9c266f51"), looks := false }, kinds := [], alts := [], laidByText := true, laidKinds := [.data, .pinned], laidTests := true, laidLooks := .later }
def FnJustifyTurnedCardSaid : Prop := Claim7.holds Tryd.pinned (.plain (OpenSpec.ofChange fnJustifyTurnedSpec)) fnJustifyTurnedCard

/-- THE TIED CARD OF 'laws.FnCenterRoads'. -/
def fnCenterRoadsCard : Claim7 := { stood := { row := fnCenterRoadsRow, standIns := [], harness := (true, "ca8568bfd995c7b77fe4fe72e8803a838651555912d7c5df6504bbce9c266f51"), looks := false }, kinds := [], alts := [], laidByText := true, laidKinds := [.data, .pinned], laidTests := true, laidLooks := .later }
def FnCenterRoadsCardSaid : Prop := Claim7.holds Tryd.pinned (.plain (OpenSpec.ofChange fnCenterRoadsSpec)) fnCenterRoadsCard

/-- THE TIED CARD OF 'laws.FnTextSays'. -/
def fnTextSaysCard : Claim7 := { stood := { row := fnTextSaysRow, standIns := [], harness := (true, "ca8568bfd995c7b77fe4fe72e8803a838651555912d7c5df6504bbce9c266f51"), looks := false }, kinds := [], alts := [], laidByText := true, laidKinds := [.data, .pinned], laidTests := true, laidLooks := .later }
def FnTextSaysCardSaid : Prop := Claim7.holds Tryd.pinned (.plain (OpenSpec.ofChange fnTextSaysSpec)) fnTextSaysCard

/-- THE SECOND FORM's CARD OF 'laws.FnLen'. -/
def fnLenUptoCard : Claim7 := { stood := { row := fnLenUptoRow, standIns := [], harness := (true, "ca8568bfd995c7b77fe4fe72e8803a838651555912d7c5df6504bbce9c266f51"), looks := false }, kinds := [], alts := [], laidByText := true, laidKinds := [.data, .pinned], laidTests := true, laidLooks := .later }
def FnLenUptoCardSaid : Prop := Claim7.holds Tryd.pinned (.plain (OpenSpec.upto fnLenSpec)) fnLenUptoCard

/-- THE SECOND FORM's CARD OF 'laws.FnReverseTwice'. -/
def fnReverseTwiceUptoCard : Claim7 := { stood := { row := fnReverseTwiceUptoRow, standIns := [], harness := (true, "ca8568bfd995c7b77fe4fe72e8803a838651555912d7c5df6504bbce9c266f51"), looks := false }, kinds := [], alts := [], laidByText := true, laidKinds := [.data, .pinned], laidTests := true, laidLooks := .later }
def FnReverseTwiceUptoCardSaid : Prop := Claim7.holds Tryd.pinned (.plain (OpenSpec.upto fnReverseTwiceSpec)) fnReverseTwiceUptoCard

/-- THE SECOND FORM's CARD OF 'laws.FnWidthPlain'. -/
def fnWidthPlainUptoCard : Claim7 := { stood := { row := fnWidthPlainUptoRow, standIns := [], harness := (true, "ca8568bfd995c7b77fe4fe72e8803a838651555912d7c5df6504bbce9c266f51"), looks := false }, kinds := [], alts := [], laidByText := true, laidKinds := [.data, .pinned], laidTests := true, laidLooks := .later }
def FnWidthPlainUptoCardSaid : Prop := Claim7.holds Tryd.pinned (.plain (OpenSpec.upto fnWidthPlainSpec)) fnWidthPlainUptoCard

/-- THE SECOND FORM's CARD OF 'laws.FnSlice'. -/
def fnSliceUptoCard : Claim7 := { stood := { row := fnSliceUptoRow, standIns := [], harness := (true, "ca8568bfd995c7b77fe4fe72e8803a838651555912d7c5df6504bbce9c266f51"), looks := false }, kinds := [], alts := [], laidByText := true, laidKinds := [.data, .pinned], laidTests := true, laidLooks := .later }
def FnSliceUptoCardSaid : Prop := Claim7.holds Tryd.pinned (.plain (OpenSpec.upto fnSliceSpec)) fnSliceUptoCard

/-- THE SECOND FORM's CARD OF 'laws.FnInsert'. -/
def fnInsertUptoCard : Claim7 := { stood := { row := fnInsertUptoRow, standIns := [], harness := (true, "ca8568bfd995c7b77fe4fe72e8803a838651555912d7c5df6504bbce9c266f51"), looks := false }, kinds := [], alts := [], laidByText := true, laidKinds := [.data, .pinned], laidTests := true, laidLooks := .later }
def FnInsertUptoCardSaid : Prop := Claim7.holds Tryd.pinned (.plain (OpenSpec.upto fnInsertSpec)) fnInsertUptoCard

/-- THE SECOND FORM's CARD OF 'laws.FnRightJustify'. -/
def fnRightJustifyUptoCard : Claim7 := { stood := { row := fnRightJustifyUptoRow, standIns := [], harness := (true, "ca8568bfd995c7b77fe4fe72e8803a838651555912d7c5df6504bbce9c266f51"), looks := false }, kinds := [], alts := [], laidByText := true, laidKinds := [.data, .pinned], laidTests := true, laidLooks := .later }
def FnRightJustifyUptoCardSaid : Prop := Claim7.holds Tryd.pinned (.plain (OpenSpec.upto fnRightJustifySpec)) fnRightJustifyUptoCard

/-- THE SECOND FORM's CARD OF 'laws.FnJustifyTurned'. -/
def fnJustifyTurnedUptoCard : Claim7 := { stood := { row := fnJustifyTurnedUptoRow, standIns := [], harness := (true, "ca8568bfd995c7b77fe4fe72e8803a838651555912d7c5df6504bbce9c266f51"), looks := false }, kinds := [], alts := [], laidByText := true, laidKinds := [.data, .pinned], laidTests := true, laidLooks := .later }
def FnJustifyTurnedUptoCardSaid : Prop := Claim7.holds Tryd.pinned (.plain (OpenSpec.upto fnJustifyTurnedSpec)) fnJustifyTurnedUptoCard

/-- THE SECOND FORM's CARD OF 'laws.FnCenterRoads'. -/
def fnCenterRoadsUptoCard : Claim7 := { stood := { row := fnCenterRoadsUptoRow, standIns := [], harness := (true, "ca8568bfd995c7b77fe4fe72e8803a838651555912d7c5df6504bbce9c266f51"), looks := false }, kinds := [], alts := [], laidByText := true, laidKinds := [.data, .pinned], laidTests := true, laidLooks := .later }
def FnCenterRoadsUptoCardSaid : Prop := Claim7.holds Tryd.pinned (.plain (OpenSpec.upto fnCenterRoadsSpec)) fnCenterRoadsUptoCard

/-- THE SECOND FORM's CARD OF 'laws.FnTextSays'. -/
def fnTextSaysUptoCard : Claim7 := { stood := { row := fnTextSaysUptoRow, standIns := [], harness := (true, "ca8568bfd995c7b77fe4fe72e8803a838651555912d7c5df6504bbce9c266f51"), looks := false }, kinds := [], alts := [], laidByText := true, laidKinds := [.data, .pinned], laidTests := true, laidLooks := .later }
def FnTextSaysUptoCardSaid : Prop := Claim7.holds Tryd.pinned (.plain (OpenSpec.upto fnTextSaysSpec)) fnTextSaysUptoCard
end Rows
end Go.Proofs.YtobcoplfniojkaaDoor
