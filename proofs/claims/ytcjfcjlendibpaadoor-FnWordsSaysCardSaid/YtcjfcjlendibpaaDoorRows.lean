/-
  NARROWER THAN 'FOR EVERY INPUT', by the rows' own cells (each row's printed sentence says how): FnWordsBlanks: laid · FnWordsEscaped: laid · FnWordsQuoted: laid · FnWordsStop: laid · FnWordsEnvs: laid · FnWordsSays: laid.
  DERIVED. THE GIVEN ROWS OF THIS SEAT. 6 by the template 'for every input the law returns true; each argument reads behind the call as it read before'; 0 by the template 'total and deterministic' (their statements: YtcjfcjlendibpaaDoorTotals.lean).
  GIVEN WITH THE SEED: the statements are not yours to turn. If you find one false, say at which input.
  Laid BY PROGRAM, IN A SANDBOX (cutbox-rows.mjs): the forced cells as the released guide's own fill.sh prints them over the translation 35233bfcd76aa53b… (all of the seat's roots in one cut). By AI agents, Wed Nov 11 2026. No macro, syntax, notation, axiom, sorry.
-/
import Derived.Test.YtcjfcjlendibpaaDoorChecked
import GoSem.PinnedTables
import GoSem.Claim
import GoSem.ClaimJoined
import GoSem.ClaimMapViews
import Derived.JoinedTies
import Derived.KernelRfl
namespace Go.Proofs.YtcjfcjlendibpaaDoor
/- THE CELL 'sum', in the pinned program and in every row, IS THE sha256 OF THE DUMP (.gsa) THAT YtcjfcjlendibpaaDoorProg.lean LOADS. Nothing in Lean hashes anything: it is a label: what it is worth is what the hold of that sum in a sandbox is worth. -/
noncomputable def Tryd.pinned : Pinned := { name := "ytcjfcjlendibpaadoor", sum := "35233bfcd76aa53b4e70a2d770734d4f61ce8d9a62a8d255d7fe98b58a1cadad", checked := Tryd.checked }
namespace Rows
def none {H : Type} : Left H := { results := [], args := [] }

/- WHAT THE LISTED PACKAGE-LEVEL VARIABLES READ AS WHEN THE CALL BEGINS. Each datum BY PROGRAM (the guide's laid-datum.mjs) off the statement by which the dump's own 'gosem.cut.vars' lays the variable. In a bare row this is a premise. The card (YtcjfcjlendibpaaDoorCards.lean) ties it to the program's text. -/
def laid_unicode_properties {H : Type} : DataW H := .agg [.lit (.int .u8 1), .lit (.int .u8 1), .lit (.int .u8 1), .lit (.int .u8 1), .lit (.int .u8 1), .lit (.int .u8 1), .lit (.int .u8 1), .lit (.int .u8 1), .lit (.int .u8 1), .lit (.int .u8 1), .lit (.int .u8 1), .lit (.int .u8 1), .lit (.int .u8 1), .lit (.int .u8 1), .lit (.int .u8 1), .lit (.int .u8 1), .lit (.int .u8 1), .lit (.int .u8 1), .lit (.int .u8 1), .lit (.int .u8 1), .lit (.int .u8 1), .lit (.int .u8 1), .lit (.int .u8 1), .lit (.int .u8 1), .lit (.int .u8 1), .lit (.int .u8 1), .lit (.int .u8 1), .lit (.int .u8 1), .lit (.int .u8 1), .lit (.int .u8 1), .lit (.int .u8 1), .lit (.int .u8 1), .lit (.int .u8 144), .lit (.int .u8 130), .lit (.int .u8 130), .lit (.int .u8 130), .lit (.int .u8 136), .lit (.int .u8 130), .lit (.int .u8 130), .lit (.int .u8 130), .lit (.int .u8 130), .lit (.int .u8 130), .lit (.int .u8 130), .lit (.int .u8 136), .lit (.int .u8 130), .lit (.int .u8 130), .lit (.int .u8 130), .lit (.int .u8 130), .lit (.int .u8 132), .lit (.int .u8 132), .lit (.int .u8 132), .lit (.int .u8 132), .lit (.int .u8 132), .lit (.int .u8 132), .lit (.int .u8 132), .lit (.int .u8 132), .lit (.int .u8 132), .lit (.int .u8 132), .lit (.int .u8 130), .lit (.int .u8 130), .lit (.int .u8 136), .lit (.int .u8 136), .lit (.int .u8 136), .lit (.int .u8 130), .lit (.int .u8 130), .lit (.int .u8 160), .lit (.int .u8 160), .lit (.int .u8 160), .lit (.int .u8 160), .lit (.int .u8 160), .lit (.int .u8 160), .lit (.int .u8 160), .lit (.int .u8 160), .lit (.int .u8 160), .lit (.int .u8 160), .lit (.int .u8 160), .lit (.int .u8 160), .lit (.int .u8 160), .lit (.int .u8 160), .lit (.int .u8 160), .lit (.int .u8 160), .lit (.int .u8 160), .lit (.int .u8 160), .lit (.int .u8 160), .lit (.int .u8 160), .lit (.int .u8 160), .lit (.int .u8 160), .lit (.int .u8 160), .lit (.int .u8 160), .lit (.int .u8 160), .lit (.int .u8 160), .lit (.int .u8 130), .lit (.int .u8 130), .lit (.int .u8 130), .lit (.int .u8 136), .lit (.int .u8 130), .lit (.int .u8 136), .lit (.int .u8 192), .lit (.int .u8 192), .lit (.int .u8 192), .lit (.int .u8 192), .lit (.int .u8 192), .lit (.int .u8 192), .lit (.int .u8 192), .lit (.int .u8 192), .lit (.int .u8 192), .lit (.int .u8 192), .lit (.int .u8 192), .lit (.int .u8 192), .lit (.int .u8 192), .lit (.int .u8 192), .lit (.int .u8 192), .lit (.int .u8 192), .lit (.int .u8 192), .lit (.int .u8 192), .lit (.int .u8 192), .lit (.int .u8 192), .lit (.int .u8 192), .lit (.int .u8 192), .lit (.int .u8 192), .lit (.int .u8 192), .lit (.int .u8 192), .lit (.int .u8 192), .lit (.int .u8 130), .lit (.int .u8 136), .lit (.int .u8 130), .lit (.int .u8 136), .lit (.int .u8 1), .lit (.int .u8 1), .lit (.int .u8 1), .lit (.int .u8 1), .lit (.int .u8 1), .lit (.int .u8 1), .lit (.int .u8 1), .lit (.int .u8 1), .lit (.int .u8 1), .lit (.int .u8 1), .lit (.int .u8 1), .lit (.int .u8 1), .lit (.int .u8 1), .lit (.int .u8 1), .lit (.int .u8 1), .lit (.int .u8 1), .lit (.int .u8 1), .lit (.int .u8 1), .lit (.int .u8 1), .lit (.int .u8 1), .lit (.int .u8 1), .lit (.int .u8 1), .lit (.int .u8 1), .lit (.int .u8 1), .lit (.int .u8 1), .lit (.int .u8 1), .lit (.int .u8 1), .lit (.int .u8 1), .lit (.int .u8 1), .lit (.int .u8 1), .lit (.int .u8 1), .lit (.int .u8 1), .lit (.int .u8 1), .lit (.int .u8 16), .lit (.int .u8 130), .lit (.int .u8 136), .lit (.int .u8 136), .lit (.int .u8 136), .lit (.int .u8 136), .lit (.int .u8 136), .lit (.int .u8 130), .lit (.int .u8 136), .lit (.int .u8 136), .lit (.int .u8 224), .lit (.int .u8 130), .lit (.int .u8 136), .lit (.int .u8 0), .lit (.int .u8 136), .lit (.int .u8 136), .lit (.int .u8 136), .lit (.int .u8 136), .lit (.int .u8 132), .lit (.int .u8 132), .lit (.int .u8 136), .lit (.int .u8 192), .lit (.int .u8 130), .lit (.int .u8 130), .lit (.int .u8 136), .lit (.int .u8 132), .lit (.int .u8 224), .lit (.int .u8 130), .lit (.int .u8 132), .lit (.int .u8 132), .lit (.int .u8 132), .lit (.int .u8 130), .lit (.int .u8 160), .lit (.int .u8 160), .lit (.int .u8 160), .lit (.int .u8 160), .lit (.int .u8 160), .lit (.int .u8 160), .lit (.int .u8 160), .lit (.int .u8 160), .lit (.int .u8 160), .lit (.int .u8 160), .lit (.int .u8 160), .lit (.int .u8 160), .lit (.int .u8 160), .lit (.int .u8 160), .lit (.int .u8 160), .lit (.int .u8 160), .lit (.int .u8 160), .lit (.int .u8 160), .lit (.int .u8 160), .lit (.int .u8 160), .lit (.int .u8 160), .lit (.int .u8 160), .lit (.int .u8 160), .lit (.int .u8 136), .lit (.int .u8 160), .lit (.int .u8 160), .lit (.int .u8 160), .lit (.int .u8 160), .lit (.int .u8 160), .lit (.int .u8 160), .lit (.int .u8 160), .lit (.int .u8 192), .lit (.int .u8 192), .lit (.int .u8 192), .lit (.int .u8 192), .lit (.int .u8 192), .lit (.int .u8 192), .lit (.int .u8 192), .lit (.int .u8 192), .lit (.int .u8 192), .lit (.int .u8 192), .lit (.int .u8 192), .lit (.int .u8 192), .lit (.int .u8 192), .lit (.int .u8 192), .lit (.int .u8 192), .lit (.int .u8 192), .lit (.int .u8 192), .lit (.int .u8 192), .lit (.int .u8 192), .lit (.int .u8 192), .lit (.int .u8 192), .lit (.int .u8 192), .lit (.int .u8 192), .lit (.int .u8 192), .lit (.int .u8 136), .lit (.int .u8 192), .lit (.int .u8 192), .lit (.int .u8 192), .lit (.int .u8 192), .lit (.int .u8 192), .lit (.int .u8 192), .lit (.int .u8 192), .lit (.int .u8 192)]
def laid_pub_pencraft_pub_shellwords_errInvalidCmdLine {H : Type} : DataW H := .iface "*errors.errorString" (.ptr (.agg [.lit (.string [105, 110, 118, 97, 108, 105, 100, 32, 99, 111, 109, 109, 97, 110, 100, 32, 108, 105, 110, 101, 32, 115, 116, 114, 105, 110, 103])]))
/-- One of Go's own tables, pinned by name: the form's constant. -/
def laid_unicode_Digit : DataW Unit := Go.Pinned.digit
/-- One of Go's own tables, pinned by name: the form's constant. -/
def laid_unicode_Letter : DataW Unit := Go.Pinned.letter

/-- 'laws.FnWordsBlanks': WHATEVER THE INPUT: true; the input reads as it did. -/
def fnWordsBlanksSpec : ChangeSpec := { name := "fnWordsBlanks", fn := fun _ => fun
  | [d1, d2] => { results := [.lit (.bool true)], args := [d1, d2] }
  | _ => none }
def fnWordsBlanksRow : OpenClaim := { program := "ytcjfcjlendibpaadoor", sum := "35233bfcd76aa53b4e70a2d770734d4f61ce8d9a62a8d255d7fe98b58a1cadad", func := "pub-pencraft/laws.FnWordsBlanks", spec := "fnWordsBlanks", unfollowed := true, recurses := true, named := ["pub-pencraft/pub/shellwords.errInvalidCmdLine", "unicode.properties", "unicode.Letter", "unicode.Digit"], apart := false, laid := [("unicode.properties", laid_unicode_properties), ("pub-pencraft/pub/shellwords.errInvalidCmdLine", laid_pub_pencraft_pub_shellwords_errInvalidCmdLine), ("unicode.Digit", laid_unicode_Digit), ("unicode.Letter", laid_unicode_Letter)] }
def FnWordsBlanksSaid : Prop := fnWordsBlanksRow.holds Tryd.pinned (OpenSpec.ofChange fnWordsBlanksSpec)

/-- ITS FALSE NEIGHBOUR: 'it returns false'. Refute it at one input. -/
def fnWordsBlanksWrong : ChangeSpec := { name := "fnWordsBlanks", fn := fun _ => fun
  | [d1, d2] => { results := [.lit (.bool false)], args := [d1, d2] }
  | _ => none }
def FnWordsBlanksWrongFalsely : Prop := fnWordsBlanksRow.holds Tryd.pinned (OpenSpec.ofChange fnWordsBlanksWrong)

/-- 'laws.FnWordsEscaped': WHATEVER THE INPUT: true; the input reads as it did. -/
def fnWordsEscapedSpec : ChangeSpec := { name := "fnWordsEscaped", fn := fun _ => fun
  | [d] => { results := [.lit (.bool true)], args := [d] }
  | _ => none }
def fnWordsEscapedRow : OpenClaim := { program := "ytcjfcjlendibpaadoor", sum := "35233bfcd76aa53b4e70a2d770734d4f61ce8d9a62a8d255d7fe98b58a1cadad", func := "pub-pencraft/laws.FnWordsEscaped", spec := "fnWordsEscaped", unfollowed := true, recurses := true, named := ["pub-pencraft/pub/shellwords.errInvalidCmdLine", "unicode.properties", "unicode.Letter", "unicode.Digit"], apart := false, laid := [("unicode.properties", laid_unicode_properties), ("pub-pencraft/pub/shellwords.errInvalidCmdLine", laid_pub_pencraft_pub_shellwords_errInvalidCmdLine), ("unicode.Digit", laid_unicode_Digit), ("unicode.Letter", laid_unicode_Letter)] }
def FnWordsEscapedSaid : Prop := fnWordsEscapedRow.holds Tryd.pinned (OpenSpec.ofChange fnWordsEscapedSpec)

/-- ITS FALSE NEIGHBOUR: 'it returns false'. Refute it at one input. -/
def fnWordsEscapedWrong : ChangeSpec := { name := "fnWordsEscaped", fn := fun _ => fun
  | [d] => { results := [.lit (.bool false)], args := [d] }
  | _ => none }
def FnWordsEscapedWrongFalsely : Prop := fnWordsEscapedRow.holds Tryd.pinned (OpenSpec.ofChange fnWordsEscapedWrong)

/-- 'laws.FnWordsQuoted': WHATEVER THE INPUT: true; the input reads as it did. -/
def fnWordsQuotedSpec : ChangeSpec := { name := "fnWordsQuoted", fn := fun _ => fun
  | [d] => { results := [.lit (.bool true)], args := [d] }
  | _ => none }
def fnWordsQuotedRow : OpenClaim := { program := "ytcjfcjlendibpaadoor", sum := "35233bfcd76aa53b4e70a2d770734d4f61ce8d9a62a8d255d7fe98b58a1cadad", func := "pub-pencraft/laws.FnWordsQuoted", spec := "fnWordsQuoted", unfollowed := true, recurses := true, named := ["pub-pencraft/pub/shellwords.errInvalidCmdLine", "unicode.properties", "unicode.Letter", "unicode.Digit"], apart := false, laid := [("unicode.properties", laid_unicode_properties), ("pub-pencraft/pub/shellwords.errInvalidCmdLine", laid_pub_pencraft_pub_shellwords_errInvalidCmdLine), ("unicode.Digit", laid_unicode_Digit), ("unicode.Letter", laid_unicode_Letter)] }
def FnWordsQuotedSaid : Prop := fnWordsQuotedRow.holds Tryd.pinned (OpenSpec.ofChange fnWordsQuotedSpec)

/-- ITS FALSE NEIGHBOUR: 'it returns false'. Refute it at one input. -/
def fnWordsQuotedWrong : ChangeSpec := { name := "fnWordsQuoted", fn := fun _ => fun
  | [d] => { results := [.lit (.bool false)], args := [d] }
  | _ => none }
def FnWordsQuotedWrongFalsely : Prop := fnWordsQuotedRow.holds Tryd.pinned (OpenSpec.ofChange fnWordsQuotedWrong)

/-- 'laws.FnWordsStop': WHATEVER THE INPUT: true; the input reads as it did. -/
def fnWordsStopSpec : ChangeSpec := { name := "fnWordsStop", fn := fun _ => fun
  | [d1, d2, d3] => { results := [.lit (.bool true)], args := [d1, d2, d3] }
  | _ => none }
def fnWordsStopRow : OpenClaim := { program := "ytcjfcjlendibpaadoor", sum := "35233bfcd76aa53b4e70a2d770734d4f61ce8d9a62a8d255d7fe98b58a1cadad", func := "pub-pencraft/laws.FnWordsStop", spec := "fnWordsStop", unfollowed := true, recurses := true, named := ["pub-pencraft/pub/shellwords.errInvalidCmdLine", "unicode.properties", "unicode.Letter", "unicode.Digit"], apart := false, laid := [("unicode.properties", laid_unicode_properties), ("pub-pencraft/pub/shellwords.errInvalidCmdLine", laid_pub_pencraft_pub_shellwords_errInvalidCmdLine), ("unicode.Digit", laid_unicode_Digit), ("unicode.Letter", laid_unicode_Letter)] }
def FnWordsStopSaid : Prop := fnWordsStopRow.holds Tryd.pinned (OpenSpec.ofChange fnWordsStopSpec)

/-- ITS FALSE NEIGHBOUR: 'it returns false'. Refute it at one input. -/
def fnWordsStopWrong : ChangeSpec := { name := "fnWordsStop", fn := fun _ => fun
  | [d1, d2, d3] => { results := [.lit (.bool false)], args := [d1, d2, d3] }
  | _ => none }
def FnWordsStopWrongFalsely : Prop := fnWordsStopRow.holds Tryd.pinned (OpenSpec.ofChange fnWordsStopWrong)

/-- 'laws.FnWordsEnvs': WHATEVER THE INPUT: true; the input reads as it did. -/
def fnWordsEnvsSpec : ChangeSpec := { name := "fnWordsEnvs", fn := fun _ => fun
  | [d] => { results := [.lit (.bool true)], args := [d] }
  | _ => none }
def fnWordsEnvsRow : OpenClaim := { program := "ytcjfcjlendibpaadoor", sum := "35233bfcd76aa53b4e70a2d770734d4f61ce8d9a62a8d255d7fe98b58a1cadad", func := "pub-pencraft/laws.FnWordsEnvs", spec := "fnWordsEnvs", inPlace := ["internal/bytealg.IndexByteString"], unfollowed := true, recurses := true, named := ["pub-pencraft/pub/shellwords.errInvalidCmdLine", "unicode.properties", "unicode.Letter", "unicode.Digit"], apart := false, laid := [("unicode.properties", laid_unicode_properties), ("pub-pencraft/pub/shellwords.errInvalidCmdLine", laid_pub_pencraft_pub_shellwords_errInvalidCmdLine), ("unicode.Digit", laid_unicode_Digit), ("unicode.Letter", laid_unicode_Letter)] }
def FnWordsEnvsSaid : Prop := fnWordsEnvsRow.holds Tryd.pinned (OpenSpec.ofChange fnWordsEnvsSpec)

/-- ITS FALSE NEIGHBOUR: 'it returns false'. Refute it at one input. -/
def fnWordsEnvsWrong : ChangeSpec := { name := "fnWordsEnvs", fn := fun _ => fun
  | [d] => { results := [.lit (.bool false)], args := [d] }
  | _ => none }
def FnWordsEnvsWrongFalsely : Prop := fnWordsEnvsRow.holds Tryd.pinned (OpenSpec.ofChange fnWordsEnvsWrong)

/-- 'laws.FnWordsSays': WHATEVER THE INPUT: true; the input reads as it did. -/
def fnWordsSaysSpec : ChangeSpec := { name := "fnWordsSays", fn := fun _ => fun
  | [d1, d2, d3] => { results := [.lit (.bool true)], args := [d1, d2, d3] }
  | _ => none }
def fnWordsSaysRow : OpenClaim := { program := "ytcjfcjlendibpaadoor", sum := "35233bfcd76aa53b4e70a2d770734d4f61ce8d9a62a8d255d7fe98b58a1cadad", func := "pub-pencraft/laws.FnWordsSays", spec := "fnWordsSays", inPlace := ["internal/bytealg.IndexByteString"], unfollowed := true, recurses := true, named := ["pub-pencraft/pub/shellwords.errInvalidCmdLine", "unicode.properties", "unicode.Letter", "unicode.Digit"], apart := false, laid := [("unicode.properties", laid_unicode_properties), ("pub-pencraft/pub/shellwords.errInvalidCmdLine", laid_pub_pencraft_pub_shellwords_errInvalidCmdLine), ("unicode.Digit", laid_unicode_Digit), ("unicode.Letter", laid_unicode_Letter)] }
def FnWordsSaysSaid : Prop := fnWordsSaysRow.holds Tryd.pinned (OpenSpec.ofChange fnWordsSaysSpec)

/-- ITS FALSE NEIGHBOUR: 'it returns false'. Refute it at one input. -/
def fnWordsSaysWrong : ChangeSpec := { name := "fnWordsSays", fn := fun _ => fun
  | [d1, d2, d3] => { results := [.lit (.bool false)], args := [d1, d2, d3] }
  | _ => none }
def FnWordsSaysWrongFalsely : Prop := fnWordsSaysRow.holds Tryd.pinned (OpenSpec.ofChange fnWordsSaysWrong)

/- THE SECOND FORM. 'bulk': how many values and letters a reading holds, each counted each time it is reached (what is shared counts as often as it is met; a slice's spare places count too). A statement '..UptoSaid' is the law's where the arguments, and the package variables that the reading takes, are together of bulk at most 1048576: NARROWER than '..Said'. Prove '..Said' where nothing that the law and all that it calls make is longer than what came in: it says more and counts as full. Else prove '..UptoSaid'. A law counts once. -/
mutual
def uptoBulk {H : Type} : DataW H → Nat
  | .lit (.string bytes) => bytes.length + 1
  | .lit _ => 1
  | .nil => 1
  | .ptr d => uptoBulk d + 1
  | .slice elems spare => uptoBulkAll elems + uptoBulkAll spare + 1
  | .agg parts => uptoBulkAll parts + 1
  | .iface _ d => uptoBulk d + 1
  | .map entries => uptoBulkEntries entries + 1
  | .held _ => 1
def uptoBulkAll {H : Type} : List (DataW H) → Nat
  | [] => 0
  | d :: r => uptoBulk d + uptoBulkAll r
def uptoBulkEntries {H : Type} : List (Lit × DataW H) → Nat
  | [] => 0
  | x :: r => uptoBulkEntry x + uptoBulkEntries r
def uptoBulkEntry {H : Type} : Lit × DataW H → Nat
  | (.string bytes, d) => bytes.length + uptoBulk d + 1
  | (_, d) => uptoBulk d + 1
 end
def uptoSmall : (H : Type) → List (DataW H) → Bool := fun _ ds => decide (uptoBulkAll ds ≤ 1048576)
def OpenSpec.upto (s : _root_.Go.ChangeSpec) : _root_.Go.OpenSpec := { _root_.Go.OpenSpec.ofChange s with cond := some uptoSmall }

/-- 'laws.FnWordsBlanks', WHERE WHAT IT READS IS OF BULK AT MOST 1048576: true; the input reads as it did. -/
def fnWordsBlanksUptoRow : OpenClaim := { program := "ytcjfcjlendibpaadoor", sum := "35233bfcd76aa53b4e70a2d770734d4f61ce8d9a62a8d255d7fe98b58a1cadad", func := "pub-pencraft/laws.FnWordsBlanks", spec := "fnWordsBlanks", unfollowed := true, recurses := true, named := ["pub-pencraft/pub/shellwords.errInvalidCmdLine", "unicode.properties", "unicode.Letter", "unicode.Digit"], apart := false, laid := [("unicode.properties", laid_unicode_properties), ("pub-pencraft/pub/shellwords.errInvalidCmdLine", laid_pub_pencraft_pub_shellwords_errInvalidCmdLine), ("unicode.Digit", laid_unicode_Digit), ("unicode.Letter", laid_unicode_Letter)], narrowed := true }
def FnWordsBlanksUptoSaid : Prop := fnWordsBlanksUptoRow.holds Tryd.pinned (OpenSpec.upto fnWordsBlanksSpec)

/-- 'laws.FnWordsEscaped', WHERE WHAT IT READS IS OF BULK AT MOST 1048576: true; the input reads as it did. -/
def fnWordsEscapedUptoRow : OpenClaim := { program := "ytcjfcjlendibpaadoor", sum := "35233bfcd76aa53b4e70a2d770734d4f61ce8d9a62a8d255d7fe98b58a1cadad", func := "pub-pencraft/laws.FnWordsEscaped", spec := "fnWordsEscaped", unfollowed := true, recurses := true, named := ["pub-pencraft/pub/shellwords.errInvalidCmdLine", "unicode.properties", "unicode.Letter", "unicode.Digit"], apart := false, laid := [("unicode.properties", laid_unicode_properties), ("pub-pencraft/pub/shellwords.errInvalidCmdLine", laid_pub_pencraft_pub_shellwords_errInvalidCmdLine), ("unicode.Digit", laid_unicode_Digit), ("unicode.Letter", laid_unicode_Letter)], narrowed := true }
def FnWordsEscapedUptoSaid : Prop := fnWordsEscapedUptoRow.holds Tryd.pinned (OpenSpec.upto fnWordsEscapedSpec)

/-- 'laws.FnWordsQuoted', WHERE WHAT IT READS IS OF BULK AT MOST 1048576: true; the input reads as it did. -/
def fnWordsQuotedUptoRow : OpenClaim := { program := "ytcjfcjlendibpaadoor", sum := "35233bfcd76aa53b4e70a2d770734d4f61ce8d9a62a8d255d7fe98b58a1cadad", func := "pub-pencraft/laws.FnWordsQuoted", spec := "fnWordsQuoted", unfollowed := true, recurses := true, named := ["pub-pencraft/pub/shellwords.errInvalidCmdLine", "unicode.properties", "unicode.Letter", "unicode.Digit"], apart := false, laid := [("unicode.properties", laid_unicode_properties), ("pub-pencraft/pub/shellwords.errInvalidCmdLine", laid_pub_pencraft_pub_shellwords_errInvalidCmdLine), ("unicode.Digit", laid_unicode_Digit), ("unicode.Letter", laid_unicode_Letter)], narrowed := true }
def FnWordsQuotedUptoSaid : Prop := fnWordsQuotedUptoRow.holds Tryd.pinned (OpenSpec.upto fnWordsQuotedSpec)

/-- 'laws.FnWordsStop', WHERE WHAT IT READS IS OF BULK AT MOST 1048576: true; the input reads as it did. -/
def fnWordsStopUptoRow : OpenClaim := { program := "ytcjfcjlendibpaadoor", sum := "35233bfcd76aa53b4e70a2d770734d4f61ce8d9a62a8d255d7fe98b58a1cadad", func := "pub-pencraft/laws.FnWordsStop", spec := "fnWordsStop", unfollowed := true, recurses := true, named := ["pub-pencraft/pub/shellwords.errInvalidCmdLine", "unicode.properties", "unicode.Letter", "unicode.Digit"], apart := false, laid := [("unicode.properties", laid_unicode_properties), ("pub-pencraft/pub/shellwords.errInvalidCmdLine", laid_pub_pencraft_pub_shellwords_errInvalidCmdLine), ("unicode.Digit", laid_unicode_Digit), ("unicode.Letter", laid_unicode_Letter)], narrowed := true }
def FnWordsStopUptoSaid : Prop := fnWordsStopUptoRow.holds Tryd.pinned (OpenSpec.upto fnWordsStopSpec)

/-- 'laws.FnWordsEnvs', WHERE WHAT IT READS IS OF BULK AT MOST 1048576: true; the input reads as it did. -/
def fnWordsEnvsUptoRow : OpenClaim := { program := "ytcjfcjlendibpaadoor", sum := "35233bfcd76aa53b4e70a2d770734d4f61ce8d9a62a8d255d7fe98b58a1cadad", func := "pub-pencraft/laws.FnWordsEnvs", spec := "fnWordsEnvs", inPlace := ["internal/bytealg.IndexByteString"], unfollowed := true, recurses := true, named := ["pub-pencraft/pub/shellwords.errInvalidCmdLine", "unicode.properties", "unicode.Letter", "unicode.Digit"], apart := false, laid := [("unicode.properties", laid_unicode_properties), ("pub-pencraft/pub/shellwords.errInvalidCmdLine", laid_pub_pencraft_pub_shellwords_errInvalidCmdLine), ("unicode.Digit", laid_unicode_Digit), ("unicode.Letter", laid_unicode_Letter)], narrowed := true }
def FnWordsEnvsUptoSaid : Prop := fnWordsEnvsUptoRow.holds Tryd.pinned (OpenSpec.upto fnWordsEnvsSpec)

/-- 'laws.FnWordsSays', WHERE WHAT IT READS IS OF BULK AT MOST 1048576: true; the input reads as it did. -/
def fnWordsSaysUptoRow : OpenClaim := { program := "ytcjfcjlendibpaadoor", sum := "35233bfcd76aa53b4e70a2d770734d4f61ce8d9a62a8d255d7fe98b58a1cadad", func := "pub-pencraft/laws.FnWordsSays", spec := "fnWordsSays", inPlace := ["internal/bytealg.IndexByteString"], unfollowed := true, recurses := true, named := ["pub-pencraft/pub/shellwords.errInvalidCmdLine", "unicode.properties", "unicode.Letter", "unicode.Digit"], apart := false, laid := [("unicode.properties", laid_unicode_properties), ("pub-pencraft/pub/shellwords.errInvalidCmdLine", laid_pub_pencraft_pub_shellwords_errInvalidCmdLine), ("unicode.Digit", laid_unicode_Digit), ("unicode.Letter", laid_unicode_Letter)], narrowed := true }
def FnWordsSaysUptoSaid : Prop := fnWordsSaysUptoRow.holds Tryd.pinned (OpenSpec.upto fnWordsSaysSpec)

end Rows
end Go.Proofs.YtcjfcjlendibpaaDoor
