/-
  DERIVED. GIVEN WITH THE SEED: THE CARDS: each row of YtcjfcjlendibpaaDoorRows.lean that lists a variable, with what it lists TIED to the program's text (the seventh form; the later family's looks); each row that meets fmt, with fmt's text TOLD by the authors' own Lean function (tested against real Go, not proved from fmt's source: count such statements apart). THE CARD IS WHAT COUNTS. Prove the row's statement (the work); the ties are given (YtcjfcjlendibpaaDoorTie.lean); close each card by the builder's one call (the guide's Derived/Test/ToyasCard.lean, 'card_holds'). Laid BY PROGRAM, IN A SANDBOX (cutbox-door.mjs). By AI agents, Wed Nov 11 2026. No macro, syntax, notation, axiom, sorry.
-/
import Derived.Test.YtcjfcjlendibpaaDoorRows
import GoSem.ClaimSeven
namespace Go.Proofs.YtcjfcjlendibpaaDoor
namespace Rows

/-- THE TIED CARD OF 'laws.FnWordsBlanks'. -/
def fnWordsBlanksCard : Claim7 := { stood := { row := fnWordsBlanksRow, standIns := [], harness := (true, "75dba27c2081700c42d110484ed55094e5b94cf10c18d9bd770fa302bc9b9878"), looks := false }, kinds := [], alts := [], laidByText := true, laidKinds := [.data, .sentinel, .pinned, .pinned], laidTests := true, laidLooks := .later }
def FnWordsBlanksCardSaid : Prop := Claim7.holds Tryd.pinned (.plain (OpenSpec.ofChange fnWordsBlanksSpec)) fnWordsBlanksCard

/-- THE TIED CARD OF 'laws.FnWordsEscaped'. -/
def fnWordsEscapedCard : Claim7 := { stood := { row := fnWordsEscapedRow, standIns := [], harness := (true, "75dba27c2081700c42d110484ed55094e5b94cf10c18d9bd770fa302bc9b9878"), looks := false }, kinds := [], alts := [], laidByText := true, laidKinds := [.data, .sentinel, .pinned, .pinned], laidTests := true, laidLooks := .later }
def FnWordsEscapedCardSaid : Prop := Claim7.holds Tryd.pinned (.plain (OpenSpec.ofChange fnWordsEscapedSpec)) fnWordsEscapedCard

/-- THE TIED CARD OF 'laws.FnWordsQuoted'. -/
def fnWordsQuotedCard : Claim7 := { stood := { row := fnWordsQuotedRow, standIns := [], harness := (true, "75dba27c2081700c42d110484ed55094e5b94cf10c18d9bd770fa302bc9b9878"), looks := false }, kinds := [], alts := [], laidByText := true, laidKinds := [.data, .sentinel, .pinned, .pinned], laidTests := true, laidLooks := .later }
def FnWordsQuotedCardSaid : Prop := Claim7.holds Tryd.pinned (.plain (OpenSpec.ofChange fnWordsQuotedSpec)) fnWordsQuotedCard

/-- THE TIED CARD OF 'laws.FnWordsStop'. -/
def fnWordsStopCard : Claim7 := { stood := { row := fnWordsStopRow, standIns := [], harness := (true, "75dba27c2081700c42d110484ed55094e5b94cf10c18d9bd770fa302bc9b9878"), looks := false }, kinds := [], alts := [], laidByText := true, laidKinds := [.data, .sentinel, .pinned, .pinned], laidTests := true, laidLooks := .later }
def FnWordsStopCardSaid : Prop := Claim7.holds Tryd.pinned (.plain (OpenSpec.ofChange fnWordsStopSpec)) fnWordsStopCard

/-- THE TIED CARD OF 'laws.FnWordsEnvs'. -/
def fnWordsEnvsCard : Claim7 := { stood := { row := fnWordsEnvsRow, standIns := [], harness := (true, "75dba27c2081700c42d110484ed55094e5b94cf10c18d9bd770fa302bc9b9878"), looks := false }, kinds := [], alts := [], laidByText := true, laidKinds := [.data, .sentinel, .pinned, .pinned], laidTests := true, laidLooks := .later }
def FnWordsEnvsCardSaid : Prop := Claim7.holds Tryd.pinned (.plain (OpenSpec.ofChange fnWordsEnvsSpec)) fnWordsEnvsCard

/-- THE TIED CARD OF 'laws.FnWordsSays'. -/
def fnWordsSaysCard : Claim7 := { stood := { row := fnWordsSaysRow, standIns := [], harness := (true, "75dba27c2081700c42d110484ed55094e5b94cf10c18d9bd770fa302bc9b9878"), looks := false }, kinds := [], alts := [], laidByText := true, laidKinds := [.data, .sentinel, .pinned, .pinned], laidTests := true, laidLooks := .later }
def FnWordsSaysCardSaid : Prop := Claim7.holds Tryd.pinned (.plain (OpenSpec.ofChange fnWordsSaysSpec)) fnWordsSaysCard

/-- THE SECOND FORM's CARD OF 'laws.FnWordsBlanks'. -/
def fnWordsBlanksUptoCard : Claim7 := { stood := { row := fnWordsBlanksUptoRow, standIns := [], harness := (true, "75dba27c2081700c42d110484ed55094e5b94cf10c18d9bd770fa302bc9b9878"), looks := false }, kinds := [], alts := [], laidByText := true, laidKinds := [.data, .sentinel, .pinned, .pinned], laidTests := true, laidLooks := .later }
def FnWordsBlanksUptoCardSaid : Prop := Claim7.holds Tryd.pinned (.plain (OpenSpec.upto fnWordsBlanksSpec)) fnWordsBlanksUptoCard

/-- THE SECOND FORM's CARD OF 'laws.FnWordsEscaped'. -/
def fnWordsEscapedUptoCard : Claim7 := { stood := { row := fnWordsEscapedUptoRow, standIns := [], harness := (true, "75dba27c2081700c42d110484ed55094e5b94cf10c18d9bd770fa302bc9b9878"), looks := false }, kinds := [], alts := [], laidByText := true, laidKinds := [.data, .sentinel, .pinned, .pinned], laidTests := true, laidLooks := .later }
def FnWordsEscapedUptoCardSaid : Prop := Claim7.holds Tryd.pinned (.plain (OpenSpec.upto fnWordsEscapedSpec)) fnWordsEscapedUptoCard

/-- THE SECOND FORM's CARD OF 'laws.FnWordsQuoted'. -/
def fnWordsQuotedUptoCard : Claim7 := { stood := { row := fnWordsQuotedUptoRow, standIns := [], harness := (true, "75dba27c2081700c42d110484ed55094e5b94cf10c18d9bd770fa302bc9b9878"), looks := false }, kinds := [], alts := [], laidByText := true, laidKinds := [.data, .sentinel, .pinned, .pinned], laidTests := true, laidLooks := .later }
def FnWordsQuotedUptoCardSaid : Prop := Claim7.holds Tryd.pinned (.plain (OpenSpec.upto fnWordsQuotedSpec)) fnWordsQuotedUptoCard

/-- THE SECOND FORM's CARD OF 'laws.FnWordsStop'. -/
def fnWordsStopUptoCard : Claim7 := { stood := { row := fnWordsStopUptoRow, standIns := [], harness := (true, "75dba27c2081700c42d110484ed55094e5b94cf10c18d9bd770fa302bc9b9878"), looks := false }, kinds := [], alts := [], laidByText := true, laidKinds := [.data, .sentinel, .pinned, .pinned], laidTests := true, laidLooks := .later }
def FnWordsStopUptoCardSaid : Prop := Claim7.holds Tryd.pinned (.plain (OpenSpec.upto fnWordsStopSpec)) fnWordsStopUptoCard

/-- THE SECOND FORM's CARD OF 'laws.FnWordsEnvs'. -/
def fnWordsEnvsUptoCard : Claim7 := { stood := { row := fnWordsEnvsUptoRow, standIns := [], harness := (true, "75dba27c2081700c42d110484ed55094e5b94cf10c18d9bd770fa302bc9b9878"), looks := false }, kinds := [], alts := [], laidByText := true, laidKinds := [.data, .sentinel, .pinned, .pinned], laidTests := true, laidLooks := .later }
def FnWordsEnvsUptoCardSaid : Prop := Claim7.holds Tryd.pinned (.plain (OpenSpec.upto fnWordsEnvsSpec)) fnWordsEnvsUptoCard

/-- THE SECOND FORM's CARD OF 'laws.FnWordsSays'. -/
def fnWordsSaysUptoCard : Claim7 := { stood := { row := fnWordsSaysUptoRow, standIns := [], harness := (true, "75dba27c2081700c42d110484ed55094e5b94cf10c18d9bd770fa302bc9b9878"), looks := false }, kinds := [], alts := [], laidByText := true, laidKinds := [.data, .sentinel, .pinned, .pinned], laidTests := true, laidLooks := .later }
def FnWordsSaysUptoCardSaid : Prop := Claim7.holds Tryd.pinned (.plain (OpenSpec.upto fnWordsSaysSpec)) fnWordsSaysUptoCard
end Rows
end Go.Proofs.YtcjfcjlendibpaaDoor
