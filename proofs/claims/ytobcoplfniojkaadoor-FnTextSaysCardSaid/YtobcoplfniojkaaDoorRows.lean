/-
  NARROWER THAN 'FOR EVERY INPUT', by the rows' own cells (each row's printed sentence says how): FnLen: laid · FnReverseTwice: laid · FnWidthPlain: laid · FnSlice: laid · FnInsert: laid · FnRightJustify: laid · FnJustifyTurned: laid · FnCenterRoads: laid · FnTextSays: laid.
  DERIVED. THE GIVEN ROWS OF THIS SEAT. 9 by the template 'for every input the law returns true; each argument reads behind the call as it read before'; 0 by the template 'total and deterministic' (their statements: YtobcoplfniojkaaDoorTotals.lean).
  GIVEN WITH THE SEED: the statements are not yours to turn. If you find one false, say at which input.
  Laid BY PROGRAM, IN A SANDBOX (cutbox-rows.mjs): the forced cells as the released guide's own fill.sh prints them over the translation f05197c6947b7509… (all of the seat's roots in one cut). By AI agents, Wed Nov 11 2026. No macro, syntax, notation, axiom, sorry.
-/
import Derived.Test.YtobcoplfniojkaaDoorChecked
import GoSem.PinnedTables
import GoSem.Claim
import GoSem.ClaimJoined
import GoSem.ClaimMapViews
import Derived.JoinedTies
import Derived.KernelRfl
namespace Go.Proofs.YtobcoplfniojkaaDoor
/- THE CELL 'sum', in the pinned program and in every row, IS THE sha256 OF THE DUMP (.gsa) THAT YtobcoplfniojkaaDoorProg.lean LOADS. Nothing in Lean hashes anything: it is a label: what it is worth is what the hold of that sum in a sandbox is worth. -/
noncomputable def Tryd.pinned : Pinned := { name := "ytobcoplfniojkaadoor", sum := "f05197c6947b7509945ca046d54c93445819b8cbee058d4082621a84fe0b3b36", checked := Tryd.checked }
namespace Rows
def none {H : Type} : Left H := { results := [], args := [] }

/- WHAT THE LISTED PACKAGE-LEVEL VARIABLES READ AS WHEN THE CALL BEGINS. Each datum BY PROGRAM (the guide's laid-datum.mjs) off the statement by which the dump's own 'gosem.cut.vars' lays the variable. In a bare row this is a premise. The card (YtobcoplfniojkaaDoorCards.lean) ties it to the program's text. -/
def laid_unicode_utf8_acceptRanges {H : Type} : DataW H := .agg [.agg [.lit (.int .u8 128), .lit (.int .u8 191)], .agg [.lit (.int .u8 160), .lit (.int .u8 191)], .agg [.lit (.int .u8 128), .lit (.int .u8 159)], .agg [.lit (.int .u8 144), .lit (.int .u8 191)], .agg [.lit (.int .u8 128), .lit (.int .u8 143)], .agg [.lit (.int .u8 0), .lit (.int .u8 0)], .agg [.lit (.int .u8 0), .lit (.int .u8 0)], .agg [.lit (.int .u8 0), .lit (.int .u8 0)], .agg [.lit (.int .u8 0), .lit (.int .u8 0)], .agg [.lit (.int .u8 0), .lit (.int .u8 0)], .agg [.lit (.int .u8 0), .lit (.int .u8 0)], .agg [.lit (.int .u8 0), .lit (.int .u8 0)], .agg [.lit (.int .u8 0), .lit (.int .u8 0)], .agg [.lit (.int .u8 0), .lit (.int .u8 0)], .agg [.lit (.int .u8 0), .lit (.int .u8 0)], .agg [.lit (.int .u8 0), .lit (.int .u8 0)]]
/-- One of Go's own tables, pinned by name: the form's constant. -/
def laid_unicode_utf8_first : DataW Unit := Go.Pinned.utf8First

/-- 'laws.FnLen': WHATEVER THE INPUT: true; the input reads as it did. -/
def fnLenSpec : ChangeSpec := { name := "fnLen", fn := fun _ => fun
  | [d] => { results := [.lit (.bool true)], args := [d] }
  | _ => none }
def fnLenRow : OpenClaim := { program := "ytobcoplfniojkaadoor", sum := "f05197c6947b7509945ca046d54c93445819b8cbee058d4082621a84fe0b3b36", func := "pub-pencraft/laws.FnLen", spec := "fnLen", named := ["unicode/utf8.first", "unicode/utf8.acceptRanges"], apart := false, laid := [("unicode/utf8.acceptRanges", laid_unicode_utf8_acceptRanges), ("unicode/utf8.first", laid_unicode_utf8_first)] }
def FnLenSaid : Prop := fnLenRow.holds Tryd.pinned (OpenSpec.ofChange fnLenSpec)

/-- ITS FALSE NEIGHBOUR: 'it returns false'. Refute it at one input. -/
def fnLenWrong : ChangeSpec := { name := "fnLen", fn := fun _ => fun
  | [d] => { results := [.lit (.bool false)], args := [d] }
  | _ => none }
def FnLenWrongFalsely : Prop := fnLenRow.holds Tryd.pinned (OpenSpec.ofChange fnLenWrong)

/-- 'laws.FnReverseTwice': WHATEVER THE INPUT: true; the input reads as it did. -/
def fnReverseTwiceSpec : ChangeSpec := { name := "fnReverseTwice", fn := fun _ => fun
  | [d] => { results := [.lit (.bool true)], args := [d] }
  | _ => none }
def fnReverseTwiceRow : OpenClaim := { program := "ytobcoplfniojkaadoor", sum := "f05197c6947b7509945ca046d54c93445819b8cbee058d4082621a84fe0b3b36", func := "pub-pencraft/laws.FnReverseTwice", spec := "fnReverseTwice", named := ["unicode/utf8.first", "unicode/utf8.acceptRanges"], apart := false, laid := [("unicode/utf8.acceptRanges", laid_unicode_utf8_acceptRanges), ("unicode/utf8.first", laid_unicode_utf8_first)] }
def FnReverseTwiceSaid : Prop := fnReverseTwiceRow.holds Tryd.pinned (OpenSpec.ofChange fnReverseTwiceSpec)

/-- ITS FALSE NEIGHBOUR: 'it returns false'. Refute it at one input. -/
def fnReverseTwiceWrong : ChangeSpec := { name := "fnReverseTwice", fn := fun _ => fun
  | [d] => { results := [.lit (.bool false)], args := [d] }
  | _ => none }
def FnReverseTwiceWrongFalsely : Prop := fnReverseTwiceRow.holds Tryd.pinned (OpenSpec.ofChange fnReverseTwiceWrong)

/-- 'laws.FnWidthPlain': WHATEVER THE INPUT: true; the input reads as it did. -/
def fnWidthPlainSpec : ChangeSpec := { name := "fnWidthPlain", fn := fun _ => fun
  | [d] => { results := [.lit (.bool true)], args := [d] }
  | _ => none }
def fnWidthPlainRow : OpenClaim := { program := "ytobcoplfniojkaadoor", sum := "f05197c6947b7509945ca046d54c93445819b8cbee058d4082621a84fe0b3b36", func := "pub-pencraft/laws.FnWidthPlain", spec := "fnWidthPlain", named := ["unicode/utf8.first", "unicode/utf8.acceptRanges"], apart := false, laid := [("unicode/utf8.acceptRanges", laid_unicode_utf8_acceptRanges), ("unicode/utf8.first", laid_unicode_utf8_first)] }
def FnWidthPlainSaid : Prop := fnWidthPlainRow.holds Tryd.pinned (OpenSpec.ofChange fnWidthPlainSpec)

/-- ITS FALSE NEIGHBOUR: 'it returns false'. Refute it at one input. -/
def fnWidthPlainWrong : ChangeSpec := { name := "fnWidthPlain", fn := fun _ => fun
  | [d] => { results := [.lit (.bool false)], args := [d] }
  | _ => none }
def FnWidthPlainWrongFalsely : Prop := fnWidthPlainRow.holds Tryd.pinned (OpenSpec.ofChange fnWidthPlainWrong)

/-- 'laws.FnSlice': WHATEVER THE INPUT: true; the input reads as it did. -/
def fnSliceSpec : ChangeSpec := { name := "fnSlice", fn := fun _ => fun
  | [d1, d2, d3] => { results := [.lit (.bool true)], args := [d1, d2, d3] }
  | _ => none }
def fnSliceRow : OpenClaim := { program := "ytobcoplfniojkaadoor", sum := "f05197c6947b7509945ca046d54c93445819b8cbee058d4082621a84fe0b3b36", func := "pub-pencraft/laws.FnSlice", spec := "fnSlice", unfollowed := true, recurses := true, named := ["unicode/utf8.first", "unicode/utf8.acceptRanges"], apart := false, laid := [("unicode/utf8.acceptRanges", laid_unicode_utf8_acceptRanges), ("unicode/utf8.first", laid_unicode_utf8_first)] }
def FnSliceSaid : Prop := fnSliceRow.holds Tryd.pinned (OpenSpec.ofChange fnSliceSpec)

/-- ITS FALSE NEIGHBOUR: 'it returns false'. Refute it at one input. -/
def fnSliceWrong : ChangeSpec := { name := "fnSlice", fn := fun _ => fun
  | [d1, d2, d3] => { results := [.lit (.bool false)], args := [d1, d2, d3] }
  | _ => none }
def FnSliceWrongFalsely : Prop := fnSliceRow.holds Tryd.pinned (OpenSpec.ofChange fnSliceWrong)

/-- 'laws.FnInsert': WHATEVER THE INPUT: true; the input reads as it did. -/
def fnInsertSpec : ChangeSpec := { name := "fnInsert", fn := fun _ => fun
  | [d1, d2, d3] => { results := [.lit (.bool true)], args := [d1, d2, d3] }
  | _ => none }
def fnInsertRow : OpenClaim := { program := "ytobcoplfniojkaadoor", sum := "f05197c6947b7509945ca046d54c93445819b8cbee058d4082621a84fe0b3b36", func := "pub-pencraft/laws.FnInsert", spec := "fnInsert", unfollowed := true, recurses := true, named := ["unicode/utf8.first", "unicode/utf8.acceptRanges"], apart := false, laid := [("unicode/utf8.acceptRanges", laid_unicode_utf8_acceptRanges), ("unicode/utf8.first", laid_unicode_utf8_first)] }
def FnInsertSaid : Prop := fnInsertRow.holds Tryd.pinned (OpenSpec.ofChange fnInsertSpec)

/-- ITS FALSE NEIGHBOUR: 'it returns false'. Refute it at one input. -/
def fnInsertWrong : ChangeSpec := { name := "fnInsert", fn := fun _ => fun
  | [d1, d2, d3] => { results := [.lit (.bool false)], args := [d1, d2, d3] }
  | _ => none }
def FnInsertWrongFalsely : Prop := fnInsertRow.holds Tryd.pinned (OpenSpec.ofChange fnInsertWrong)

/-- 'laws.FnRightJustify': WHATEVER THE INPUT: true; the input reads as it did. -/
def fnRightJustifySpec : ChangeSpec := { name := "fnRightJustify", fn := fun _ => fun
  | [d1, d2, d3] => { results := [.lit (.bool true)], args := [d1, d2, d3] }
  | _ => none }
def fnRightJustifyRow : OpenClaim := { program := "ytobcoplfniojkaadoor", sum := "f05197c6947b7509945ca046d54c93445819b8cbee058d4082621a84fe0b3b36", func := "pub-pencraft/laws.FnRightJustify", spec := "fnRightJustify", inPlace := ["internal/abi.NoEscape", "internal/bytealg.MakeNoZero"], named := ["unicode/utf8.first", "unicode/utf8.acceptRanges"], apart := false, laid := [("unicode/utf8.acceptRanges", laid_unicode_utf8_acceptRanges), ("unicode/utf8.first", laid_unicode_utf8_first)] }
def FnRightJustifySaid : Prop := fnRightJustifyRow.holds Tryd.pinned (OpenSpec.ofChange fnRightJustifySpec)

/-- ITS FALSE NEIGHBOUR: 'it returns false'. Refute it at one input. -/
def fnRightJustifyWrong : ChangeSpec := { name := "fnRightJustify", fn := fun _ => fun
  | [d1, d2, d3] => { results := [.lit (.bool false)], args := [d1, d2, d3] }
  | _ => none }
def FnRightJustifyWrongFalsely : Prop := fnRightJustifyRow.holds Tryd.pinned (OpenSpec.ofChange fnRightJustifyWrong)

/-- 'laws.FnJustifyTurned': WHATEVER THE INPUT: true; the input reads as it did. -/
def fnJustifyTurnedSpec : ChangeSpec := { name := "fnJustifyTurned", fn := fun _ => fun
  | [d1, d2, d3] => { results := [.lit (.bool true)], args := [d1, d2, d3] }
  | _ => none }
def fnJustifyTurnedRow : OpenClaim := { program := "ytobcoplfniojkaadoor", sum := "f05197c6947b7509945ca046d54c93445819b8cbee058d4082621a84fe0b3b36", func := "pub-pencraft/laws.FnJustifyTurned", spec := "fnJustifyTurned", inPlace := ["internal/abi.NoEscape", "internal/bytealg.MakeNoZero"], named := ["unicode/utf8.first", "unicode/utf8.acceptRanges"], apart := false, laid := [("unicode/utf8.acceptRanges", laid_unicode_utf8_acceptRanges), ("unicode/utf8.first", laid_unicode_utf8_first)] }
def FnJustifyTurnedSaid : Prop := fnJustifyTurnedRow.holds Tryd.pinned (OpenSpec.ofChange fnJustifyTurnedSpec)

/-- ITS FALSE NEIGHBOUR: 'it returns false'. Refute it at one input. -/
def fnJustifyTurnedWrong : ChangeSpec := { name := "fnJustifyTurned", fn := fun _ => fun
  | [d1, d2, d3] => { results := [.lit (.bool false)], args := [d1, d2, d3] }
  | _ => none }
def FnJustifyTurnedWrongFalsely : Prop := fnJustifyTurnedRow.holds Tryd.pinned (OpenSpec.ofChange fnJustifyTurnedWrong)

/-- 'laws.FnCenterRoads': WHATEVER THE INPUT: true; the input reads as it did. -/
def fnCenterRoadsSpec : ChangeSpec := { name := "fnCenterRoads", fn := fun _ => fun
  | [d1, d2, d3] => { results := [.lit (.bool true)], args := [d1, d2, d3] }
  | _ => none }
def fnCenterRoadsRow : OpenClaim := { program := "ytobcoplfniojkaadoor", sum := "f05197c6947b7509945ca046d54c93445819b8cbee058d4082621a84fe0b3b36", func := "pub-pencraft/laws.FnCenterRoads", spec := "fnCenterRoads", inPlace := ["internal/abi.NoEscape", "internal/bytealg.MakeNoZero"], named := ["unicode/utf8.first", "unicode/utf8.acceptRanges"], apart := false, laid := [("unicode/utf8.acceptRanges", laid_unicode_utf8_acceptRanges), ("unicode/utf8.first", laid_unicode_utf8_first)] }
def FnCenterRoadsSaid : Prop := fnCenterRoadsRow.holds Tryd.pinned (OpenSpec.ofChange fnCenterRoadsSpec)

/-- ITS FALSE NEIGHBOUR: 'it returns false'. Refute it at one input. -/
def fnCenterRoadsWrong : ChangeSpec := { name := "fnCenterRoads", fn := fun _ => fun
  | [d1, d2, d3] => { results := [.lit (.bool false)], args := [d1, d2, d3] }
  | _ => none }
def FnCenterRoadsWrongFalsely : Prop := fnCenterRoadsRow.holds Tryd.pinned (OpenSpec.ofChange fnCenterRoadsWrong)

/-- 'laws.FnTextSays': WHATEVER THE INPUT: true; the input reads as it did. -/
def fnTextSaysSpec : ChangeSpec := { name := "fnTextSays", fn := fun _ => fun
  | [d1, d2, d3, d4] => { results := [.lit (.bool true)], args := [d1, d2, d3, d4] }
  | _ => none }
def fnTextSaysRow : OpenClaim := { program := "ytobcoplfniojkaadoor", sum := "f05197c6947b7509945ca046d54c93445819b8cbee058d4082621a84fe0b3b36", func := "pub-pencraft/laws.FnTextSays", spec := "fnTextSays", inPlace := ["internal/abi.NoEscape", "internal/bytealg.MakeNoZero"], unfollowed := true, recurses := true, named := ["unicode/utf8.first", "unicode/utf8.acceptRanges"], apart := false, laid := [("unicode/utf8.acceptRanges", laid_unicode_utf8_acceptRanges), ("unicode/utf8.first", laid_unicode_utf8_first)] }
def FnTextSaysSaid : Prop := fnTextSaysRow.holds Tryd.pinned (OpenSpec.ofChange fnTextSaysSpec)

/-- ITS FALSE NEIGHBOUR: 'it returns false'. Refute it at one input. -/
def fnTextSaysWrong : ChangeSpec := { name := "fnTextSays", fn := fun _ => fun
  | [d1, d2, d3, d4] => { results := [.lit (.bool false)], args := [d1, d2, d3, d4] }
  | _ => none }
def FnTextSaysWrongFalsely : Prop := fnTextSaysRow.holds Tryd.pinned (OpenSpec.ofChange fnTextSaysWrong)

/- THE SECOND FORM. 'bulk': how many values and letters a reading holds, each counted each time it is reached (what is shared counts as often as it is met; a slice's spare places count too). A statement '..UptoSaid' is the law's where the arguments, and the package variables that the reading takes, are together of bulk at most 1048576: NARROWER than '..Said'. Prove '..Said' where nothing that the law and all that it calls make is longer than what came in: it says more and counts as full. Else prove '..UptoSaid'. A law counts once. -/
mutual
def uptoBulk {H : Type} : DataW H → Nat
  | .lit (.string bytes) => bytes.length + 1
  | .lit _ => 1
  | .nil => 1
  | .ptr d => uptoBulk d + 1
  | .slice elems spare => uptoBulkAll elems + uptoBulkAll spare + 1
  | .agg parts => uptoBulkAll parts + 1
  | .iface _ d => uptoBulk d + 1
  | .map entries => uptoBulkEntries entries + 1
  | .held _ => 1
def uptoBulkAll {H : Type} : List (DataW H) → Nat
  | [] => 0
  | d :: r => uptoBulk d + uptoBulkAll r
def uptoBulkEntries {H : Type} : List (Lit × DataW H) → Nat
  | [] => 0
  | x :: r => uptoBulkEntry x + uptoBulkEntries r
def uptoBulkEntry {H : Type} : Lit × DataW H → Nat
  | (.string bytes, d) => bytes.length + uptoBulk d + 1
  | (_, d) => uptoBulk d + 1
 end
def uptoSmall : (H : Type) → List (DataW H) → Bool := fun _ ds => decide (uptoBulkAll ds ≤ 1048576)
def OpenSpec.upto (s : _root_.Go.ChangeSpec) : _root_.Go.OpenSpec := { _root_.Go.OpenSpec.ofChange s with cond := some uptoSmall }

/-- 'laws.FnLen', WHERE WHAT IT READS IS OF BULK AT MOST 1048576: true; the input reads as it did. -/
def fnLenUptoRow : OpenClaim := { program := "ytobcoplfniojkaadoor", sum := "f05197c6947b7509945ca046d54c93445819b8cbee058d4082621a84fe0b3b36", func := "pub-pencraft/laws.FnLen", spec := "fnLen", named := ["unicode/utf8.first", "unicode/utf8.acceptRanges"], apart := false, laid := [("unicode/utf8.acceptRanges", laid_unicode_utf8_acceptRanges), ("unicode/utf8.first", laid_unicode_utf8_first)], narrowed := true }
def FnLenUptoSaid : Prop := fnLenUptoRow.holds Tryd.pinned (OpenSpec.upto fnLenSpec)

/-- 'laws.FnReverseTwice', WHERE WHAT IT READS IS OF BULK AT MOST 1048576: true; the input reads as it did. -/
def fnReverseTwiceUptoRow : OpenClaim := { program := "ytobcoplfniojkaadoor", sum := "f05197c6947b7509945ca046d54c93445819b8cbee058d4082621a84fe0b3b36", func := "pub-pencraft/laws.FnReverseTwice", spec := "fnReverseTwice", named := ["unicode/utf8.first", "unicode/utf8.acceptRanges"], apart := false, laid := [("unicode/utf8.acceptRanges", laid_unicode_utf8_acceptRanges), ("unicode/utf8.first", laid_unicode_utf8_first)], narrowed := true }
def FnReverseTwiceUptoSaid : Prop := fnReverseTwiceUptoRow.holds Tryd.pinned (OpenSpec.upto fnReverseTwiceSpec)

/-- 'laws.FnWidthPlain', WHERE WHAT IT READS IS OF BULK AT MOST 1048576: true; the input reads as it did. -/
def fnWidthPlainUptoRow : OpenClaim := { program := "ytobcoplfniojkaadoor", sum := "f05197c6947b7509945ca046d54c93445819b8cbee058d4082621a84fe0b3b36", func := "pub-pencraft/laws.FnWidthPlain", spec := "fnWidthPlain", named := ["unicode/utf8.first", "unicode/utf8.acceptRanges"], apart := false, laid := [("unicode/utf8.acceptRanges", laid_unicode_utf8_acceptRanges), ("unicode/utf8.first", laid_unicode_utf8_first)], narrowed := true }
def FnWidthPlainUptoSaid : Prop := fnWidthPlainUptoRow.holds Tryd.pinned (OpenSpec.upto fnWidthPlainSpec)

/-- 'laws.FnSlice', WHERE WHAT IT READS IS OF BULK AT MOST 1048576: true; the input reads as it did. -/
def fnSliceUptoRow : OpenClaim := { program := "ytobcoplfniojkaadoor", sum := "f05197c6947b7509945ca046d54c93445819b8cbee058d4082621a84fe0b3b36", func := "pub-pencraft/laws.FnSlice", spec := "fnSlice", unfollowed := true, recurses := true, named := ["unicode/utf8.first", "unicode/utf8.acceptRanges"], apart := false, laid := [("unicode/utf8.acceptRanges", laid_unicode_utf8_acceptRanges), ("unicode/utf8.first", laid_unicode_utf8_first)], narrowed := true }
def FnSliceUptoSaid : Prop := fnSliceUptoRow.holds Tryd.pinned (OpenSpec.upto fnSliceSpec)

/-- 'laws.FnInsert', WHERE WHAT IT READS IS OF BULK AT MOST 1048576: true; the input reads as it did. -/
def fnInsertUptoRow : OpenClaim := { program := "ytobcoplfniojkaadoor", sum := "f05197c6947b7509945ca046d54c93445819b8cbee058d4082621a84fe0b3b36", func := "pub-pencraft/laws.FnInsert", spec := "fnInsert", unfollowed := true, recurses := true, named := ["unicode/utf8.first", "unicode/utf8.acceptRanges"], apart := false, laid := [("unicode/utf8.acceptRanges", laid_unicode_utf8_acceptRanges), ("unicode/utf8.first", laid_unicode_utf8_first)], narrowed := true }
def FnInsertUptoSaid : Prop := fnInsertUptoRow.holds Tryd.pinned (OpenSpec.upto fnInsertSpec)

/-- 'laws.FnRightJustify', WHERE WHAT IT READS IS OF BULK AT MOST 1048576: true; the input reads as it did. -/
def fnRightJustifyUptoRow : OpenClaim := { program := "ytobcoplfniojkaadoor", sum := "f05197c6947b7509945ca046d54c93445819b8cbee058d4082621a84fe0b3b36", func := "pub-pencraft/laws.FnRightJustify", spec := "fnRightJustify", inPlace := ["internal/abi.NoEscape", "internal/bytealg.MakeNoZero"], named := ["unicode/utf8.first", "unicode/utf8.acceptRanges"], apart := false, laid := [("unicode/utf8.acceptRanges", laid_unicode_utf8_acceptRanges), ("unicode/utf8.first", laid_unicode_utf8_first)], narrowed := true }
def FnRightJustifyUptoSaid : Prop := fnRightJustifyUptoRow.holds Tryd.pinned (OpenSpec.upto fnRightJustifySpec)

/-- 'laws.FnJustifyTurned', WHERE WHAT IT READS IS OF BULK AT MOST 1048576: true; the input reads as it did. -/
def fnJustifyTurnedUptoRow : OpenClaim := { program := "ytobcoplfniojkaadoor", sum := "f05197c6947b7509945ca046d54c93445819b8cbee058d4082621a84fe0b3b36", func := "pub-pencraft/laws.FnJustifyTurned", spec := "fnJustifyTurned", inPlace := ["internal/abi.NoEscape", "internal/bytealg.MakeNoZero"], named := ["unicode/utf8.first", "unicode/utf8.acceptRanges"], apart := false, laid := [("unicode/utf8.acceptRanges", laid_unicode_utf8_acceptRanges), ("unicode/utf8.first", laid_unicode_utf8_first)], narrowed := true }
def FnJustifyTurnedUptoSaid : Prop := fnJustifyTurnedUptoRow.holds Tryd.pinned (OpenSpec.upto fnJustifyTurnedSpec)

/-- 'laws.FnCenterRoads', WHERE WHAT IT READS IS OF BULK AT MOST 1048576: true; the input reads as it did. -/
def fnCenterRoadsUptoRow : OpenClaim := { program := "ytobcoplfniojkaadoor", sum := "f05197c6947b7509945ca046d54c93445819b8cbee058d4082621a84fe0b3b36", func := "pub-pencraft/laws.FnCenterRoads", spec := "fnCenterRoads", inPlace := ["internal/abi.NoEscape", "internal/bytealg.MakeNoZero"], named := ["unicode/utf8.first", "unicode/utf8.acceptRanges"], apart := false, laid := [("unicode/utf8.acceptRanges", laid_unicode_utf8_acceptRanges), ("unicode/utf8.first", laid_unicode_utf8_first)], narrowed := true }
def FnCenterRoadsUptoSaid : Prop := fnCenterRoadsUptoRow.holds Tryd.pinned (OpenSpec.upto fnCenterRoadsSpec)

/-- 'laws.FnTextSays', WHERE WHAT IT READS IS OF BULK AT MOST 1048576: true; the input reads as it did. -/
def fnTextSaysUptoRow : OpenClaim := { program := "ytobcoplfniojkaadoor", sum := "f05197c6947b7509945ca046d54c93445819b8cbee058d4082621a84fe0b3b36", func := "pub-pencraft/laws.FnTextSays", spec := "fnTextSays", inPlace := ["internal/abi.NoEscape", "internal/bytealg.MakeNoZero"], unfollowed := true, recurses := true, named := ["unicode/utf8.first", "unicode/utf8.acceptRanges"], apart := false, laid := [("unicode/utf8.acceptRanges", laid_unicode_utf8_acceptRanges), ("unicode/utf8.first", laid_unicode_utf8_first)], narrowed := true }
def FnTextSaysUptoSaid : Prop := fnTextSaysUptoRow.holds Tryd.pinned (OpenSpec.upto fnTextSaysSpec)

end Rows
end Go.Proofs.YtobcoplfniojkaaDoor
