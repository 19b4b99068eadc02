/-
  NARROWER THAN 'FOR EVERY INPUT', by the rows' own cells (each row's printed sentence says how): FnHasPattern: laid · FnSqueeze: laid · FnDelete: laid · FnTranslateLast: laid · FnTranslateAll: laid · FnDeleteTwice: laid · FnTranslateJoined: laid.
  DERIVED. THE GIVEN ROWS OF THIS SEAT. 7 by the template 'for every input the law returns true; each argument reads behind the call as it read before'; 0 by the template 'total and deterministic' (their statements: YtdgaehkfdaacjaaDoorTotals.lean).
  GIVEN WITH THE SEED: the statements are not yours to turn. If you find one false, say at which input.
  Laid BY PROGRAM, IN A SANDBOX (cutbox-rows.mjs): the forced cells as the released guide's own fill.sh prints them over the translation f57c7ef6ff23bc4b… (all of the seat's roots in one cut). By AI agents, Wed Nov 11 2026. No macro, syntax, notation, axiom, sorry.
-/
import Derived.Test.YtdgaehkfdaacjaaDoorChecked
import GoSem.PinnedTables
import GoSem.Claim
import GoSem.ClaimJoined
import GoSem.ClaimMapViews
import Derived.JoinedTies
import Derived.KernelRfl
namespace Go.Proofs.YtdgaehkfdaacjaaDoor
/- THE CELL 'sum', in the pinned program and in every row, IS THE sha256 OF THE DUMP (.gsa) THAT YtdgaehkfdaacjaaDoorProg.lean LOADS. Nothing in Lean hashes anything: it is a label: what it is worth is what the hold of that sum in a sandbox is worth. -/
noncomputable def Tryd.pinned : Pinned := { name := "ytdgaehkfdaacjaadoor", sum := "f57c7ef6ff23bc4bfd2c39a1ee464a58401a925c7e0ba1ea93decab77b52f7e1", checked := Tryd.checked }
namespace Rows
def none {H : Type} : Left H := { results := [], args := [] }

/- WHAT THE LISTED PACKAGE-LEVEL VARIABLES READ AS WHEN THE CALL BEGINS. Each datum BY PROGRAM (the guide's laid-datum.mjs) off the statement by which the dump's own 'gosem.cut.vars' lays the variable. In a bare row this is a premise. The card (YtdgaehkfdaacjaaDoorCards.lean) ties it to the program's text. -/
def laid_unicode_utf8_acceptRanges {H : Type} : DataW H := .agg [.agg [.lit (.int .u8 128), .lit (.int .u8 191)], .agg [.lit (.int .u8 160), .lit (.int .u8 191)], .agg [.lit (.int .u8 128), .lit (.int .u8 159)], .agg [.lit (.int .u8 144), .lit (.int .u8 191)], .agg [.lit (.int .u8 128), .lit (.int .u8 143)], .agg [.lit (.int .u8 0), .lit (.int .u8 0)], .agg [.lit (.int .u8 0), .lit (.int .u8 0)], .agg [.lit (.int .u8 0), .lit (.int .u8 0)], .agg [.lit (.int .u8 0), .lit (.int .u8 0)], .agg [.lit (.int .u8 0), .lit (.int .u8 0)], .agg [.lit (.int .u8 0), .lit (.int .u8 0)], .agg [.lit (.int .u8 0), .lit (.int .u8 0)], .agg [.lit (.int .u8 0), .lit (.int .u8 0)], .agg [.lit (.int .u8 0), .lit (.int .u8 0)], .agg [.lit (.int .u8 0), .lit (.int .u8 0)], .agg [.lit (.int .u8 0), .lit (.int .u8 0)]]
/-- One of Go's own tables, pinned by name: the form's constant. -/
def laid_unicode_utf8_first : DataW Unit := Go.Pinned.utf8First

/-- 'laws.FnHasPattern': WHATEVER THE INPUT: true; the input reads as it did. -/
def fnHasPatternSpec : ChangeSpec := { name := "fnHasPattern", fn := fun _ => fun
  | [d1, d2] => { results := [.lit (.bool true)], args := [d1, d2] }
  | _ => none }
def fnHasPatternRow : OpenClaim := { program := "ytdgaehkfdaacjaadoor", sum := "f57c7ef6ff23bc4bfd2c39a1ee464a58401a925c7e0ba1ea93decab77b52f7e1", func := "pub-pencraft/laws.FnHasPattern", spec := "fnHasPattern", unfollowed := true, recurses := true, named := ["unicode/utf8.first", "unicode/utf8.acceptRanges"], apart := false, laid := [("unicode/utf8.acceptRanges", laid_unicode_utf8_acceptRanges), ("unicode/utf8.first", laid_unicode_utf8_first)] }
def FnHasPatternSaid : Prop := fnHasPatternRow.holds Tryd.pinned (OpenSpec.ofChange fnHasPatternSpec)

/-- ITS FALSE NEIGHBOUR: 'it returns false'. Refute it at one input. -/
def fnHasPatternWrong : ChangeSpec := { name := "fnHasPattern", fn := fun _ => fun
  | [d1, d2] => { results := [.lit (.bool false)], args := [d1, d2] }
  | _ => none }
def FnHasPatternWrongFalsely : Prop := fnHasPatternRow.holds Tryd.pinned (OpenSpec.ofChange fnHasPatternWrong)

/-- 'laws.FnSqueeze': WHATEVER THE INPUT: true; the input reads as it did. -/
def fnSqueezeSpec : ChangeSpec := { name := "fnSqueeze", fn := fun _ => fun
  | [d1, d2] => { results := [.lit (.bool true)], args := [d1, d2] }
  | _ => none }
def fnSqueezeRow : OpenClaim := { program := "ytdgaehkfdaacjaadoor", sum := "f57c7ef6ff23bc4bfd2c39a1ee464a58401a925c7e0ba1ea93decab77b52f7e1", func := "pub-pencraft/laws.FnSqueeze", spec := "fnSqueeze", inPlace := ["internal/abi.NoEscape", "internal/bytealg.MakeNoZero"], unfollowed := true, recurses := true, named := ["unicode/utf8.first", "unicode/utf8.acceptRanges"], apart := false, laid := [("unicode/utf8.acceptRanges", laid_unicode_utf8_acceptRanges), ("unicode/utf8.first", laid_unicode_utf8_first)] }
def FnSqueezeSaid : Prop := fnSqueezeRow.holds Tryd.pinned (OpenSpec.ofChange fnSqueezeSpec)

/-- ITS FALSE NEIGHBOUR: 'it returns false'. Refute it at one input. -/
def fnSqueezeWrong : ChangeSpec := { name := "fnSqueeze", fn := fun _ => fun
  | [d1, d2] => { results := [.lit (.bool false)], args := [d1, d2] }
  | _ => none }
def FnSqueezeWrongFalsely : Prop := fnSqueezeRow.holds Tryd.pinned (OpenSpec.ofChange fnSqueezeWrong)

/-- 'laws.FnDelete': WHATEVER THE INPUT: true; the input reads as it did. -/
def fnDeleteSpec : ChangeSpec := { name := "fnDelete", fn := fun _ => fun
  | [d1, d2] => { results := [.lit (.bool true)], args := [d1, d2] }
  | _ => none }
def fnDeleteRow : OpenClaim := { program := "ytdgaehkfdaacjaadoor", sum := "f57c7ef6ff23bc4bfd2c39a1ee464a58401a925c7e0ba1ea93decab77b52f7e1", func := "pub-pencraft/laws.FnDelete", spec := "fnDelete", inPlace := ["internal/abi.NoEscape", "internal/bytealg.MakeNoZero"], unfollowed := true, recurses := true, named := ["unicode/utf8.first", "unicode/utf8.acceptRanges"], apart := false, laid := [("unicode/utf8.acceptRanges", laid_unicode_utf8_acceptRanges), ("unicode/utf8.first", laid_unicode_utf8_first)] }
def FnDeleteSaid : Prop := fnDeleteRow.holds Tryd.pinned (OpenSpec.ofChange fnDeleteSpec)

/-- ITS FALSE NEIGHBOUR: 'it returns false'. Refute it at one input. -/
def fnDeleteWrong : ChangeSpec := { name := "fnDelete", fn := fun _ => fun
  | [d1, d2] => { results := [.lit (.bool false)], args := [d1, d2] }
  | _ => none }
def FnDeleteWrongFalsely : Prop := fnDeleteRow.holds Tryd.pinned (OpenSpec.ofChange fnDeleteWrong)

/-- 'laws.FnTranslateLast': WHATEVER THE INPUT: true; the input reads as it did. -/
def fnTranslateLastSpec : ChangeSpec := { name := "fnTranslateLast", fn := fun _ => fun
  | [d1, d2, d3] => { results := [.lit (.bool true)], args := [d1, d2, d3] }
  | _ => none }
def fnTranslateLastRow : OpenClaim := { program := "ytdgaehkfdaacjaadoor", sum := "f57c7ef6ff23bc4bfd2c39a1ee464a58401a925c7e0ba1ea93decab77b52f7e1", func := "pub-pencraft/laws.FnTranslateLast", spec := "fnTranslateLast", inPlace := ["internal/abi.NoEscape", "internal/bytealg.MakeNoZero"], unfollowed := true, recurses := true, named := ["unicode/utf8.first", "unicode/utf8.acceptRanges"], apart := false, laid := [("unicode/utf8.acceptRanges", laid_unicode_utf8_acceptRanges), ("unicode/utf8.first", laid_unicode_utf8_first)] }
def FnTranslateLastSaid : Prop := fnTranslateLastRow.holds Tryd.pinned (OpenSpec.ofChange fnTranslateLastSpec)

/-- ITS FALSE NEIGHBOUR: 'it returns false'. Refute it at one input. -/
def fnTranslateLastWrong : ChangeSpec := { name := "fnTranslateLast", fn := fun _ => fun
  | [d1, d2, d3] => { results := [.lit (.bool false)], args := [d1, d2, d3] }
  | _ => none }
def FnTranslateLastWrongFalsely : Prop := fnTranslateLastRow.holds Tryd.pinned (OpenSpec.ofChange fnTranslateLastWrong)

/-- 'laws.FnTranslateAll': WHATEVER THE INPUT: true; the input reads as it did. -/
def fnTranslateAllSpec : ChangeSpec := { name := "fnTranslateAll", fn := fun _ => fun
  | [d1, d2, d3] => { results := [.lit (.bool true)], args := [d1, d2, d3] }
  | _ => none }
def fnTranslateAllRow : OpenClaim := { program := "ytdgaehkfdaacjaadoor", sum := "f57c7ef6ff23bc4bfd2c39a1ee464a58401a925c7e0ba1ea93decab77b52f7e1", func := "pub-pencraft/laws.FnTranslateAll", spec := "fnTranslateAll", inPlace := ["internal/abi.NoEscape", "internal/bytealg.MakeNoZero"], unfollowed := true, recurses := true, named := ["unicode/utf8.first", "unicode/utf8.acceptRanges"], apart := false, laid := [("unicode/utf8.acceptRanges", laid_unicode_utf8_acceptRanges), ("unicode/utf8.first", laid_unicode_utf8_first)] }
def FnTranslateAllSaid : Prop := fnTranslateAllRow.holds Tryd.pinned (OpenSpec.ofChange fnTranslateAllSpec)

/-- ITS FALSE NEIGHBOUR: 'it returns false'. Refute it at one input. -/
def fnTranslateAllWrong : ChangeSpec := { name := "fnTranslateAll", fn := fun _ => fun
  | [d1, d2, d3] => { results := [.lit (.bool false)], args := [d1, d2, d3] }
  | _ => none }
def FnTranslateAllWrongFalsely : Prop := fnTranslateAllRow.holds Tryd.pinned (OpenSpec.ofChange fnTranslateAllWrong)

/-- 'laws.FnDeleteTwice': WHATEVER THE INPUT: true; the input reads as it did. -/
def fnDeleteTwiceSpec : ChangeSpec := { name := "fnDeleteTwice", fn := fun _ => fun
  | [d1, d2, d3] => { results := [.lit (.bool true)], args := [d1, d2, d3] }
  | _ => none }
def fnDeleteTwiceRow : OpenClaim := { program := "ytdgaehkfdaacjaadoor", sum := "f57c7ef6ff23bc4bfd2c39a1ee464a58401a925c7e0ba1ea93decab77b52f7e1", func := "pub-pencraft/laws.FnDeleteTwice", spec := "fnDeleteTwice", inPlace := ["internal/abi.NoEscape", "internal/bytealg.MakeNoZero"], unfollowed := true, recurses := true, named := ["unicode/utf8.first", "unicode/utf8.acceptRanges"], apart := false, laid := [("unicode/utf8.acceptRanges", laid_unicode_utf8_acceptRanges), ("unicode/utf8.first", laid_unicode_utf8_first)] }
def FnDeleteTwiceSaid : Prop := fnDeleteTwiceRow.holds Tryd.pinned (OpenSpec.ofChange fnDeleteTwiceSpec)

/-- ITS FALSE NEIGHBOUR: 'it returns false'. Refute it at one input. -/
def fnDeleteTwiceWrong : ChangeSpec := { name := "fnDeleteTwice", fn := fun _ => fun
  | [d1, d2, d3] => { results := [.lit (.bool false)], args := [d1, d2, d3] }
  | _ => none }
def FnDeleteTwiceWrongFalsely : Prop := fnDeleteTwiceRow.holds Tryd.pinned (OpenSpec.ofChange fnDeleteTwiceWrong)

/-- 'laws.FnTranslateJoined': WHATEVER THE INPUT: true; the input reads as it did. -/
def fnTranslateJoinedSpec : ChangeSpec := { name := "fnTranslateJoined", fn := fun _ => fun
  | [d1, d2, d3, d4] => { results := [.lit (.bool true)], args := [d1, d2, d3, d4] }
  | _ => none }
def fnTranslateJoinedRow : OpenClaim := { program := "ytdgaehkfdaacjaadoor", sum := "f57c7ef6ff23bc4bfd2c39a1ee464a58401a925c7e0ba1ea93decab77b52f7e1", func := "pub-pencraft/laws.FnTranslateJoined", spec := "fnTranslateJoined", inPlace := ["internal/abi.NoEscape", "internal/bytealg.MakeNoZero"], unfollowed := true, recurses := true, named := ["unicode/utf8.first", "unicode/utf8.acceptRanges"], apart := false, laid := [("unicode/utf8.acceptRanges", laid_unicode_utf8_acceptRanges), ("unicode/utf8.first", laid_unicode_utf8_first)] }
def FnTranslateJoinedSaid : Prop := fnTranslateJoinedRow.holds Tryd.pinned (OpenSpec.ofChange fnTranslateJoinedSpec)

/-- ITS FALSE NEIGHBOUR: 'it returns false'. Refute it at one input. -/
def fnTranslateJoinedWrong : ChangeSpec := { name := "fnTranslateJoined", fn := fun _ => fun
  | [d1, d2, d3, d4] => { results := [.lit (.bool false)], args := [d1, d2, d3, d4] }
  | _ => none }
def FnTranslateJoinedWrongFalsely : Prop := fnTranslateJoinedRow.holds Tryd.pinned (OpenSpec.ofChange fnTranslateJoinedWrong)

/- THE SECOND FORM. 'bulk': how many values and letters a reading holds, each counted each time it is reached (what is shared counts as often as it is met; a slice's spare places count too). A statement '..UptoSaid' is the law's where the arguments, and the package variables that the reading takes, are together of bulk at most 1048576: NARROWER than '..Said'. Prove '..Said' where nothing that the law and all that it calls make is longer than what came in: it says more and counts as full. Else prove '..UptoSaid'. A law counts once. -/
mutual
def uptoBulk {H : Type} : DataW H → Nat
  | .lit (.string bytes) => bytes.length + 1
  | .lit _ => 1
  | .nil => 1
  | .ptr d => uptoBulk d + 1
  | .slice elems spare => uptoBulkAll elems + uptoBulkAll spare + 1
  | .agg parts => uptoBulkAll parts + 1
  | .iface _ d => uptoBulk d + 1
  | .map entries => uptoBulkEntries entries + 1
  | .held _ => 1
def uptoBulkAll {H : Type} : List (DataW H) → Nat
  | [] => 0
  | d :: r => uptoBulk d + uptoBulkAll r
def uptoBulkEntries {H : Type} : List (Lit × DataW H) → Nat
  | [] => 0
  | x :: r => uptoBulkEntry x + uptoBulkEntries r
def uptoBulkEntry {H : Type} : Lit × DataW H → Nat
  | (.string bytes, d) => bytes.length + uptoBulk d + 1
  | (_, d) => uptoBulk d + 1
 end
def uptoSmall : (H : Type) → List (DataW H) → Bool := fun _ ds => decide (uptoBulkAll ds ≤ 1048576)
def OpenSpec.upto (s : _root_.Go.ChangeSpec) : _root_.Go.OpenSpec := { _root_.Go.OpenSpec.ofChange s with cond := some uptoSmall }

/-- 'laws.FnHasPattern', WHERE WHAT IT READS IS OF BULK AT MOST 1048576: true; the input reads as it did. -/
def fnHasPatternUptoRow : OpenClaim := { program := "ytdgaehkfdaacjaadoor", sum := "f57c7ef6ff23bc4bfd2c39a1ee464a58401a925c7e0ba1ea93decab77b52f7e1", func := "pub-pencraft/laws.FnHasPattern", spec := "fnHasPattern", unfollowed := true, recurses := true, named := ["unicode/utf8.first", "unicode/utf8.acceptRanges"], apart := false, laid := [("unicode/utf8.acceptRanges", laid_unicode_utf8_acceptRanges), ("unicode/utf8.first", laid_unicode_utf8_first)], narrowed := true }
def FnHasPatternUptoSaid : Prop := fnHasPatternUptoRow.holds Tryd.pinned (OpenSpec.upto fnHasPatternSpec)

/-- 'laws.FnSqueeze', WHERE WHAT IT READS IS OF BULK AT MOST 1048576: true; the input reads as it did. -/
def fnSqueezeUptoRow : OpenClaim := { program := "ytdgaehkfdaacjaadoor", sum := "f57c7ef6ff23bc4bfd2c39a1ee464a58401a925c7e0ba1ea93decab77b52f7e1", func := "pub-pencraft/laws.FnSqueeze", spec := "fnSqueeze", inPlace := ["internal/abi.NoEscape", "internal/bytealg.MakeNoZero"], unfollowed := true, recurses := true, named := ["unicode/utf8.first", "unicode/utf8.acceptRanges"], apart := false, laid := [("unicode/utf8.acceptRanges", laid_unicode_utf8_acceptRanges), ("unicode/utf8.first", laid_unicode_utf8_first)], narrowed := true }
def FnSqueezeUptoSaid : Prop := fnSqueezeUptoRow.holds Tryd.pinned (OpenSpec.upto fnSqueezeSpec)

/-- 'laws.FnDelete', WHERE WHAT IT READS IS OF BULK AT MOST 1048576: true; the input reads as it did. -/
def fnDeleteUptoRow : OpenClaim := { program := "ytdgaehkfdaacjaadoor", sum := "f57c7ef6ff23bc4bfd2c39a1ee464a58401a925c7e0ba1ea93decab77b52f7e1", func := "pub-pencraft/laws.FnDelete", spec := "fnDelete", inPlace := ["internal/abi.NoEscape", "internal/bytealg.MakeNoZero"], unfollowed := true, recurses := true, named := ["unicode/utf8.first", "unicode/utf8.acceptRanges"], apart := false, laid := [("unicode/utf8.acceptRanges", laid_unicode_utf8_acceptRanges), ("unicode/utf8.first", laid_unicode_utf8_first)], narrowed := true }
def FnDeleteUptoSaid : Prop := fnDeleteUptoRow.holds Tryd.pinned (OpenSpec.upto fnDeleteSpec)

/-- 'laws.FnTranslateLast', WHERE WHAT IT READS IS OF BULK AT MOST 1048576: true; the input reads as it did. -/
def fnTranslateLastUptoRow : OpenClaim := { program := "ytdgaehkfdaacjaadoor", sum := "f57c7ef6ff23bc4bfd2c39a1ee464a58401a925c7e0ba1ea93decab77b52f7e1", func := "pub-pencraft/laws.FnTranslateLast", spec := "fnTranslateLast", inPlace := ["internal/abi.NoEscape", "internal/bytealg.MakeNoZero"], unfollowed := true, recurses := true, named := ["unicode/utf8.first", "unicode/utf8.acceptRanges"], apart := false, laid := [("unicode/utf8.acceptRanges", laid_unicode_utf8_acceptRanges), ("unicode/utf8.first", laid_unicode_utf8_first)], narrowed := true }
def FnTranslateLastUptoSaid : Prop := fnTranslateLastUptoRow.holds Tryd.pinned (OpenSpec.upto fnTranslateLastSpec)

/-- 'laws.FnTranslateAll', WHERE WHAT IT READS IS OF BULK AT MOST 1048576: true; the input reads as it did. -/
def fnTranslateAllUptoRow : OpenClaim := { program := "ytdgaehkfdaacjaadoor", sum := "f57c7ef6ff23bc4bfd2c39a1ee464a58401a925c7e0ba1ea93decab77b52f7e1", func := "pub-pencraft/laws.FnTranslateAll", spec := "fnTranslateAll", inPlace := ["internal/abi.NoEscape", "internal/bytealg.MakeNoZero"], unfollowed := true, recurses := true, named := ["unicode/utf8.first", "unicode/utf8.acceptRanges"], apart := false, laid := [("unicode/utf8.acceptRanges", laid_unicode_utf8_acceptRanges), ("unicode/utf8.first", laid_unicode_utf8_first)], narrowed := true }
def FnTranslateAllUptoSaid : Prop := fnTranslateAllUptoRow.holds Tryd.pinned (OpenSpec.upto fnTranslateAllSpec)

/-- 'laws.FnDeleteTwice', WHERE WHAT IT READS IS OF BULK AT MOST 1048576: true; the input reads as it did. -/
def fnDeleteTwiceUptoRow : OpenClaim := { program := "ytdgaehkfdaacjaadoor", sum := "f57c7ef6ff23bc4bfd2c39a1ee464a58401a925c7e0ba1ea93decab77b52f7e1", func := "pub-pencraft/laws.FnDeleteTwice", spec := "fnDeleteTwice", inPlace := ["internal/abi.NoEscape", "internal/bytealg.MakeNoZero"], unfollowed := true, recurses := true, named := ["unicode/utf8.first", "unicode/utf8.acceptRanges"], apart := false, laid := [("unicode/utf8.acceptRanges", laid_unicode_utf8_acceptRanges), ("unicode/utf8.first", laid_unicode_utf8_first)], narrowed := true }
def FnDeleteTwiceUptoSaid : Prop := fnDeleteTwiceUptoRow.holds Tryd.pinned (OpenSpec.upto fnDeleteTwiceSpec)

/-- 'laws.FnTranslateJoined', WHERE WHAT IT READS IS OF BULK AT MOST 1048576: true; the input reads as it did. -/
def fnTranslateJoinedUptoRow : OpenClaim := { program := "ytdgaehkfdaacjaadoor", sum := "f57c7ef6ff23bc4bfd2c39a1ee464a58401a925c7e0ba1ea93decab77b52f7e1", func := "pub-pencraft/laws.FnTranslateJoined", spec := "fnTranslateJoined", inPlace := ["internal/abi.NoEscape", "internal/bytealg.MakeNoZero"], unfollowed := true, recurses := true, named := ["unicode/utf8.first", "unicode/utf8.acceptRanges"], apart := false, laid := [("unicode/utf8.acceptRanges", laid_unicode_utf8_acceptRanges), ("unicode/utf8.first", laid_unicode_utf8_first)], narrowed := true }
def FnTranslateJoinedUptoSaid : Prop := fnTranslateJoinedUptoRow.holds Tryd.pinned (OpenSpec.upto fnTranslateJoinedSpec)

end Rows
end Go.Proofs.YtdgaehkfdaacjaaDoor
