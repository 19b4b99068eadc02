/-
  DERIVED: THE SHELF's CONTRACTS AT THIS DUMP, IN PLAIN WORDS (tools/lay-plain.mjs out of 'TryzShelf.lean', which tools/lay-shelf.mjs wrote): THE SAME DECLARATIONS UNDER THE SAME NAMES: 'import', 'namespace', 'open', 'def', 'theorem' AND NOTHING ELSE: no command of the shelf's: FOR A HAND-IN. Each laying: the table of numbers ('.._ren') and one theorem, a field a fact of the dump's own or the kernel's comparison; each contract: ONE APPLICATION.
-/
import Derived.Shelf.Unicode.ValidAny
import Derived.Shelf.Strings.Builder1
import Derived.Shelf.Small.Utf8
import Derived.Shelf.Strings.BuilderF
import Derived.Shelf.Strings.BuilderK
import Derived.Shelf.Strconv.ParseIntEmpty
import Derived.Shelf.LaysM
import Derived.Shelf.Strconv.Clone
import Derived.Shelf.Strconv.SyntaxError
import Derived.Shelf.LaysC
import Derived.Shelf.Strconv.ToError
import Derived.Shelf.Strconv.Lower
import Derived.Shelf.Strconv.ParseUint10
import Derived.Shelf.Strconv.ParseUint10Empty
import Derived.Shelf.Strconv.ParseUint10Any
import Derived.Shelf.Strconv.ParseInt10
import Derived.Shelf.Strconv.RangeError
import Derived.Shelf.Strconv.ToErrorRange
import Derived.Shelf.Strconv.ParseUintEmpty
import Derived.Shelf.Strconv.ParseUint10b64
import Derived.Shelf.Strconv.ParseUint10b32
import Derived.Shelf.Strconv.ParseUint10b16
import Derived.Shelf.Strconv.ParseUint10b8
import Derived.Shelf.Strconv.ParseUint10At
import Derived.Shelf.Strconv.ParseInt10At64
import Derived.Shelf.Strconv.ParseInt10At32
import Derived.Shelf.Strconv.ParseInt10At16
import Derived.Shelf.Strconv.ParseInt10At8
import Derived.Shelf.Strconv.ParseInt10All
import Derived.Shelf.Strconv.ParseIntPublic10
import Derived.Shelf.Sort.Plain
import Derived.Shelf.Strings.Prefix
import Derived.Shelf.Unicode.Latin
import Derived.Shelf.Unicode.Decode
import Derived.Shelf.Unicode.DecodeSlow
import Derived.Shelf.Unicode.DecodeAny
import Derived.Shelf.Unicode.Is16White
import Derived.Shelf.Unicode.IsSpaceAny
import Derived.Shelf.Unicode.Is16WhiteD
import Derived.Shelf.Unicode.IsSpaceAnyD
import Derived.Shelf.Unicode.Is16Any
import Derived.Shelf.Unicode.Is32Any
import Derived.Shelf.Unicode.ExclAny
import Derived.Shelf.Strings.BuilderCap
import Derived.Shelf.Slices.In.SortNone
import Derived.Shelf.Slices.In.SortNone2
import Derived.Shelf.Bytes.SlSmallAll
import Derived.Shelf.Bytes.Small
import Derived.Test.YtgmhigjhooihdaaGreatDoorProg
namespace Go.Proofs
open Go.Shelf
def Tryz.lays169_ren : Go.Shelf.Ren := ⟨fun | 169 => 47 | n => n, fun | 70 => 88 | 9 => 9 | 0 => 0 | 72 => 90 | 37 => 83 | 127 => 128 | 3 => 3 | 5 => 5 | n => n, fun | n => n⟩
theorem Tryz.lays169 : Go.Proofs.Lays.n169 Tryz.prog Tryz.lays169_ren := {
  mixed := by kernel_rfl
  f169 := Tryz.func47.trans (congrArg some (by kernel_rfl))
  t0 := Tryz.underlying0
  a0 := Tryz.isAgg0
  z0 := Tryz.sizeOf0
  v0 := Tryz.zeroValue0
  t3 := Tryz.underlying3
  a3 := Tryz.isAgg3
  z3 := Tryz.sizeOf3
  v3 := Tryz.zeroValue3
  t9 := Tryz.underlying9
  a9 := Tryz.isAgg9
  z9 := Tryz.sizeOf9
  v9 := Tryz.zeroValue9
  t37 := Tryz.underlying83
  a37 := Tryz.isAgg83
  z37 := Tryz.sizeOf83
  v37 := Tryz.zeroValue83
  t70 := Tryz.underlying88
  a70 := Tryz.isAgg88
  z70 := Tryz.sizeOf88
  v70 := Tryz.zeroValue88
  t72 := Tryz.underlying90
  a72 := Tryz.isAgg90
  z72 := Tryz.sizeOf90
  v72 := Tryz.zeroValue90
  t127 := Tryz.underlying128
  a127 := Tryz.isAgg128
  z127 := Tryz.sizeOf128
  v127 := Tryz.zeroValue128 }
theorem Tryz.Builder_Extra_169 : Builder.Extra Tryz.prog Tryz.lays169_ren := {
  sizeBuilder := by kernel_rfl
  liesBuilder := by kernel_rfl
  t5 := Tryz.underlying5
  a5 := Tryz.isAgg5
  z5 := Tryz.sizeOf5
  v5 := Tryz.zeroValue5
  infoByte := by kernel_rfl
  cellsByte := by kernel_rfl
  sizeByte := by kernel_rfl
  neB5 := by decide }
open Go.RowKit in
/-- (*strings.Builder).String: "String returns the accumulated string.": OF A BUILDER THAT HOLDS AT LEAST ONE BYTE. ✋ THE MODEL FREEZES THOSE BYTES IN THE BUFFER (unsafe.String): a later write INTO them ends the model's run without an answer; a later append BEHIND them goes on. The statement's order of evaluation is drawn: one draw. (LAID: no walk: one application.) -/
theorem Tryz.Builder_String (B b : Nat) (l : List UInt8) (w : World) (h : Lib.IsBuilder 90 5 B b (Lib.byteCells l) w) (h0 : l ≠ []) :
    Calls Tryz.prog 47 #[.pointer (some ⟨b, 0, none⟩)] w fun e w' => e = .returned (.string ⟨l.toArray⟩) ∧ Below B w w' := Any.Builder_String Tryz.lays169 Tryz.Builder_Extra_169 B b l w h h0
open Go.RowKit in
/-- (*strings.Builder).String OF A BUILDER THAT HOLDS NO BYTE: the empty string. (Its buffer is nil, or a row of which it has taken nothing yet; where that row has NO capacity the model lays one new block for unsafe.SliceData's 'some address'.) One draw. (LAID: no walk: one application.) -/
theorem Tryz.Builder_String_empty (B b : Nat) (w : World) (h : Lib.IsBuilder 90 5 B b [] w) (hBw : B ≤ w.heap.size) :
    Calls Tryz.prog 47 #[.pointer (some ⟨b, 0, none⟩)] w fun e w' => e = .returned (.string ⟨#[]⟩) ∧ Below B w w' := Any.Builder_String_empty Tryz.lays169 Tryz.Builder_Extra_169 B b w h hBw
open Go.RowKit in
/-- (*strings.Builder).String: "String returns the accumulated string.": WHATEVER THE BUILDER HOLDS. (LAID: no walk: one application.) -/
theorem Tryz.Builder_String_any (B b : Nat) (l : List UInt8) (w : World) (h : Lib.IsBuilder 90 5 B b (Lib.byteCells l) w) (hBw : B ≤ w.heap.size) :
    Calls Tryz.prog 47 #[.pointer (some ⟨b, 0, none⟩)] w fun e w' => e = .returned (.string ⟨l.toArray⟩) ∧ Below B w w' := Any.Builder_String_any Tryz.lays169 Tryz.Builder_Extra_169 B b l w h hBw
def Tryz.lays119_ren : Go.Shelf.Ren := ⟨fun | 119 => 221 | n => n, fun | 21 => 21 | 4 => 4 | n => n, fun | n => n⟩
theorem Tryz.lays119 : Go.Proofs.Lays.n119 Tryz.prog Tryz.lays119_ren := {
  mixed := by kernel_rfl
  f119 := Tryz.func221.trans (congrArg some (by kernel_rfl))
  t4 := Tryz.underlying4
  a4 := Tryz.isAgg4
  z4 := Tryz.sizeOf4
  v4 := Tryz.zeroValue4
  t21 := Tryz.underlying21
  a21 := Tryz.isAgg21
  z21 := Tryz.sizeOf21
  v21 := Tryz.zeroValue21 }
/-- utf8.ValidRune: "ValidRune reports whether r can be legally encoded as UTF-8. Code points that are out of range or a surrogate half are illegal.": IT RETURNS 'Lib.validRune r'; the world is as it was. (LAID: no walk: one application.) -/
theorem Tryz.utf8_ValidRune (r : Int) (w : World) :
    Calls Tryz.prog 221 #[.int .i32 r] w fun e w' => e = .returned (.bool (Lib.validRune r)) ∧ w' = w := Any.utf8_ValidRune Tryz.lays119 r w
open Go.RowKit in
/-- (*strings.Builder).String: "String returns the accumulated string.": OF A BUILDER THAT HOLDS AT LEAST ONE BYTE. ✋ THE MODEL FREEZES THOSE BYTES IN THE BUFFER (unsafe.String): a later write INTO them ends the model's run without an answer; a later append BEHIND them goes on. The statement's order of evaluation is drawn: one draw. THE FORM '_f': IT SAYS BESIDES THAT THE BUILDER IS A BUILDER STILL ('Lib.IsBuilderF', the same bytes): SO IT CAN BE WRITTEN ON: 'b.WriteString(b.String()[:k])'. (LAID: no walk: one application.) -/
theorem Tryz.Builder_String_f (B b : Nat) (l : List UInt8) (w : World) (h : Lib.IsBuilderF 90 5 B b (Lib.byteCells l) w) (h0 : l ≠ []) :
    Calls Tryz.prog 47 #[.pointer (some ⟨b, 0, none⟩)] w fun e w' => e = .returned (.string ⟨l.toArray⟩) ∧ (Lib.IsBuilderF 90 5 B b (Lib.byteCells l) w' ∧ Below B w w') := Any.Builder_String_f Tryz.lays169 Tryz.Builder_Extra_169 B b l w h h0
open Go.RowKit in
/-- (*strings.Builder).String OF A BUILDER THAT HOLDS NO BYTE: the empty string; THE FORM '_f': a builder still. (LAID: no walk: one application.) -/
theorem Tryz.Builder_String_empty_f (B b : Nat) (w : World) (h : Lib.IsBuilderF 90 5 B b [] w) (hBw : B ≤ w.heap.size) :
    Calls Tryz.prog 47 #[.pointer (some ⟨b, 0, none⟩)] w fun e w' => e = .returned (.string ⟨#[]⟩) ∧ (Lib.IsBuilderF 90 5 B b [] w' ∧ Below B w w') := Any.Builder_String_empty_f Tryz.lays169 Tryz.Builder_Extra_169 B b w h hBw
open Go.RowKit in
/-- (*strings.Builder).String: "String returns the accumulated string.": WHATEVER THE BUILDER HOLDS; THE FORM '_f': OF A BUILDER THAT MAY HAVE BEEN READ BEFORE; AND IT IS A BUILDER STILL, holding the same bytes: it can be written on. (LAID: no walk: one application.) -/
theorem Tryz.Builder_String_any_f (B b : Nat) (l : List UInt8) (w : World) (h : Lib.IsBuilderF 90 5 B b (Lib.byteCells l) w) (hBw : B ≤ w.heap.size) :
    Calls Tryz.prog 47 #[.pointer (some ⟨b, 0, none⟩)] w fun e w' => e = .returned (.string ⟨l.toArray⟩) ∧ (Lib.IsBuilderF 90 5 B b (Lib.byteCells l) w' ∧ Below B w w') := Any.Builder_String_any_f Tryz.lays169 Tryz.Builder_Extra_169 B b l w h hBw
open Go.RowKit in
/-- (*strings.Builder).String: "String returns the accumulated string.": OF A BUILDER THAT HOLDS AT LEAST ONE BYTE. ✋ THE MODEL FREEZES THOSE BYTES IN THE BUFFER (unsafe.String): a later write INTO them ends the model's run without an answer; a later append BEHIND them goes on. The statement's order of evaluation is drawn: one draw. THE FORM '_k': OVER 'Lib.IsBuilderF' (a builder that 'String()' may have read), AND WITH THE FRAME THAT REACHES ABOVE THE BUILDER: 'Lib.OthersKept': every block that is not b and is no row of uint8's stands as it stood: the iterator of a range among them. (LAID: no walk: one application.) -/
theorem Tryz.Builder_String_k (B b : Nat) (l : List UInt8) (w : World) (h : Lib.IsBuilderF 90 5 B b (Lib.byteCells l) w) (h0 : l ≠ []) :
    Calls Tryz.prog 47 #[.pointer (some ⟨b, 0, none⟩)] w fun e w' => e = .returned (.string ⟨l.toArray⟩) ∧ (Lib.IsBuilderF 90 5 B b (Lib.byteCells l) w' ∧ Below B w w' ∧ Lib.OthersKept 5 (some b) w w') := Any.Builder_String_k Tryz.lays169 Tryz.Builder_Extra_169 B b l w h h0
open Go.RowKit in
/-- (*strings.Builder).String OF A BUILDER THAT HOLDS NO BYTE: the empty string; THE FORM '_k': OVER 'Lib.IsBuilderF' (a builder that 'String()' may have read), AND WITH THE FRAME THAT REACHES ABOVE THE BUILDER: 'Lib.OthersKept': every block that is not b and is no row of uint8's stands as it stood: the iterator of a range among them. (LAID: no walk: one application.) -/
theorem Tryz.Builder_String_empty_k (B b : Nat) (w : World) (h : Lib.IsBuilderF 90 5 B b [] w) (hBw : B ≤ w.heap.size) :
    Calls Tryz.prog 47 #[.pointer (some ⟨b, 0, none⟩)] w fun e w' => e = .returned (.string ⟨#[]⟩) ∧ (Lib.IsBuilderF 90 5 B b [] w' ∧ Below B w w' ∧ Lib.OthersKept 5 (some b) w w') := Any.Builder_String_empty_k Tryz.lays169 Tryz.Builder_Extra_169 B b w h hBw
open Go.RowKit in
/-- (*strings.Builder).String: "String returns the accumulated string.": WHATEVER THE BUILDER HOLDS; THE FORM '_k': OVER 'Lib.IsBuilderF' (a builder that 'String()' may have read), AND WITH THE FRAME THAT REACHES ABOVE THE BUILDER: 'Lib.OthersKept': every block that is not b and is no row of uint8's stands as it stood: the iterator of a range among them. (LAID: no walk: one application.) -/
theorem Tryz.Builder_String_any_k (B b : Nat) (l : List UInt8) (w : World) (h : Lib.IsBuilderF 90 5 B b (Lib.byteCells l) w) (hBw : B ≤ w.heap.size) :
    Calls Tryz.prog 47 #[.pointer (some ⟨b, 0, none⟩)] w fun e w' => e = .returned (.string ⟨l.toArray⟩) ∧ (Lib.IsBuilderF 90 5 B b (Lib.byteCells l) w' ∧ Below B w w' ∧ Lib.OthersKept 5 (some b) w w') := Any.Builder_String_any_k Tryz.lays169 Tryz.Builder_Extra_169 B b l w h hBw
def Tryz.lays247_ren : Go.Shelf.Ren := ⟨fun | 247 => 166 | 287 => 168 | 321 => 173 | 322 => 174 | n => n, fun | 9 => 9 | 3 => 3 | 2 => 2 | 75 => 80 | 4 => 4 | 167 => 240 | 5 => 5 | 53 => 132 | 175 => 241 | 46 => 75 | 37 => 83 | 0 => 0 | 21 => 21 | 80 => 93 | n => n, fun | n => n⟩
theorem Tryz.lays247 : Go.Proofs.Lays.n247 Tryz.prog Tryz.lays247_ren := {
  mixed := by kernel_rfl
  f247 := Tryz.func166.trans (congrArg some (by kernel_rfl))
  f287 := Tryz.func168.trans (congrArg some (by kernel_rfl))
  f321 := Tryz.func173.trans (congrArg some (by kernel_rfl))
  f322 := Tryz.func174.trans (congrArg some (by kernel_rfl))
  t0 := Tryz.underlying0
  a0 := Tryz.isAgg0
  z0 := Tryz.sizeOf0
  v0 := Tryz.zeroValue0
  t2 := Tryz.underlying2
  a2 := Tryz.isAgg2
  z2 := Tryz.sizeOf2
  v2 := Tryz.zeroValue2
  t3 := Tryz.underlying3
  a3 := Tryz.isAgg3
  z3 := Tryz.sizeOf3
  v3 := Tryz.zeroValue3
  t4 := Tryz.underlying4
  a4 := Tryz.isAgg4
  z4 := Tryz.sizeOf4
  v4 := Tryz.zeroValue4
  t5 := Tryz.underlying5
  a5 := Tryz.isAgg5
  z5 := Tryz.sizeOf5
  v5 := Tryz.zeroValue5
  t9 := Tryz.underlying9
  a9 := Tryz.isAgg9
  z9 := Tryz.sizeOf9
  v9 := Tryz.zeroValue9
  t21 := Tryz.underlying21
  a21 := Tryz.isAgg21
  z21 := Tryz.sizeOf21
  v21 := Tryz.zeroValue21
  t37 := Tryz.underlying83
  a37 := Tryz.isAgg83
  z37 := Tryz.sizeOf83
  v37 := Tryz.zeroValue83
  t46 := Tryz.underlying75
  a46 := Tryz.isAgg75
  z46 := Tryz.sizeOf75
  v46 := Tryz.zeroValue75
  t53 := Tryz.underlying132
  a53 := Tryz.isAgg132
  z53 := Tryz.sizeOf132
  v53 := Tryz.zeroValue132
  t75 := Tryz.underlying80
  a75 := Tryz.isAgg80
  z75 := Tryz.sizeOf80
  v75 := Tryz.zeroValue80
  t167 := Tryz.underlying240
  a167 := Tryz.isAgg240
  z167 := Tryz.sizeOf240
  v167 := Tryz.zeroValue240
  t175 := Tryz.underlying241
  a175 := Tryz.isAgg241
  z175 := Tryz.sizeOf241
  v175 := Tryz.zeroValue241 }
open Go.RowKit in
/-- internal/strconv.ParseInt at "": 'if s == "" { return 0, ErrSyntax }'. The world is as it was. (LAID: no walk: one application.) -/
theorem Tryz.internal_strconv_ParseInt_empty (base bits : Int) (w : World) :
    Calls Tryz.prog 166 #[.string ⟨#[]⟩, .int .i64 base, .int .i64 bits] w fun e w' => e = .returned (.tuple #[.int .i64 0, (.iface 240 (.int .i64 2))]) ∧ w' = w := Any.internal_strconv_ParseInt_empty Tryz.lays247 base bits w
def Tryz.laysM316_ren : Go.Shelf.Ren := ⟨fun | 316 => 175 | n => n, fun | 9 => 9 | 3 => 3 | 4 => 4 | 37 => 83 | 0 => 0 | 127 => 128 | 5 => 5 | n => n, fun | n => n⟩
theorem Tryz.laysM316 : Go.Proofs.LaysM.n316 Tryz.prog Tryz.laysM316_ren := {
  mixed := by kernel_rfl
  f316 := Tryz.func175.trans (congrArg some (by kernel_rfl))
  t0 := Tryz.underlying0
  a0 := Tryz.isAgg0
  z0 := Tryz.sizeOf0
  v0 := Tryz.zeroValue0
  t3 := Tryz.underlying3
  a3 := Tryz.isAgg3
  z3 := Tryz.sizeOf3
  v3 := Tryz.zeroValue3
  t4 := Tryz.underlying4
  a4 := Tryz.isAgg4
  z4 := Tryz.sizeOf4
  v4 := Tryz.zeroValue4
  t9 := Tryz.underlying9
  a9 := Tryz.isAgg9
  z9 := Tryz.sizeOf9
  v9 := Tryz.zeroValue9
  t37 := Tryz.underlying83
  a37 := Tryz.isAgg83
  z37 := Tryz.sizeOf83
  v37 := Tryz.zeroValue83
  t127 := Tryz.underlying128
  a127 := Tryz.isAgg128
  z127 := Tryz.sizeOf128
  v127 := Tryz.zeroValue128
  t5 := Tryz.underlying5
  a5 := Tryz.isAgg5
  z5 := Tryz.sizeOf5
  v5 := Tryz.zeroValue5
  i0 := by kernel_rfl
  i3 := by kernel_rfl
  i4 := by kernel_rfl
  i5 := by kernel_rfl
  i9 := by kernel_rfl
  i37 := by kernel_rfl
  i127 := by kernel_rfl }
open Go.RowKit in
/-- internal/stringslite.Clone (what strings.Clone calls): "Clone returns a fresh copy of s.": THE SAME BYTES. Of what was there nothing has turned (a new row is laid, and frozen, where s is not empty). (LAID: no walk: one application.) -/
theorem Tryz.stringslite_Clone (s : ByteArray) (w : World) (hlim : s.size ≤ 281474976710656) :
    Calls Tryz.prog 175 #[.string s] w fun e w' => e = .returned (.string s) ∧ Below w.heap.size w w' := Any.stringslite_Clone Tryz.laysM316 s w hlim
def Tryz.laysM279_ren : Go.Shelf.Ren := ⟨fun | 279 => 169 | 316 => 175 | n => n, fun | 9 => 9 | 168 => 243 | 75 => 80 | 210 => 248 | 3 => 3 | 4 => 4 | 37 => 83 | 0 => 0 | 127 => 128 | 80 => 93 | 5 => 5 | n => n, fun | 15 => 3 | n => n⟩
theorem Tryz.laysM279 : Go.Proofs.LaysM.n279 Tryz.prog Tryz.laysM279_ren := {
  mixed := by kernel_rfl
  f279 := Tryz.func169.trans (congrArg some (by kernel_rfl))
  f316 := Tryz.func175.trans (congrArg some (by kernel_rfl))
  t0 := Tryz.underlying0
  a0 := Tryz.isAgg0
  z0 := Tryz.sizeOf0
  v0 := Tryz.zeroValue0
  t3 := Tryz.underlying3
  a3 := Tryz.isAgg3
  z3 := Tryz.sizeOf3
  v3 := Tryz.zeroValue3
  t4 := Tryz.underlying4
  a4 := Tryz.isAgg4
  z4 := Tryz.sizeOf4
  v4 := Tryz.zeroValue4
  t9 := Tryz.underlying9
  a9 := Tryz.isAgg9
  z9 := Tryz.sizeOf9
  v9 := Tryz.zeroValue9
  t37 := Tryz.underlying83
  a37 := Tryz.isAgg83
  z37 := Tryz.sizeOf83
  v37 := Tryz.zeroValue83
  t75 := Tryz.underlying80
  a75 := Tryz.isAgg80
  z75 := Tryz.sizeOf80
  v75 := Tryz.zeroValue80
  t127 := Tryz.underlying128
  a127 := Tryz.isAgg128
  z127 := Tryz.sizeOf128
  v127 := Tryz.zeroValue128
  t168 := Tryz.underlying243
  a168 := Tryz.isAgg243
  z168 := Tryz.sizeOf243
  v168 := Tryz.zeroValue243
  t210 := Tryz.underlying248
  a210 := Tryz.isAgg248
  z210 := Tryz.sizeOf248
  v210 := Tryz.zeroValue248
  g15 := by kernel_rfl
  t5 := Tryz.underlying5
  a5 := Tryz.isAgg5
  z5 := Tryz.sizeOf5
  v5 := Tryz.zeroValue5
  t80 := Tryz.underlying93
  a80 := Tryz.isAgg93
  z80 := Tryz.sizeOf93
  v80 := Tryz.zeroValue93
  i0 := by kernel_rfl
  i3 := by kernel_rfl
  i4 := by kernel_rfl
  i5 := by kernel_rfl
  i9 := by kernel_rfl
  i37 := by kernel_rfl
  i75 := by kernel_rfl
  i80 := by kernel_rfl
  i127 := by kernel_rfl
  i168 := by kernel_rfl
  i210 := by kernel_rfl
  m15 := by kernel_rfl }
open Go.RowKit in
/-- strconv.syntaxError: '&NumError{fn, stringslite.Clone(str), ErrSyntax}': A POINTER TO A NEW BLOCK that holds fn, str's bytes, and what the variable ErrSyntax holds. Of what was there nothing has turned. (LAID: no walk: one application.) -/
theorem Tryz.strconv_syntaxError (fn s : ByteArray) (ev : Value) (w : World) (hlim : s.size ≤ 281474976710656) (hv : w.cell? ⟨3, 0, none⟩ = some ev) (hev : ev = .nilIface ∨ ∃ te pe, ev = .iface te pe) :
    Calls Tryz.prog 169 #[.string fn, .string s] w fun e w' => ∃ N, e = .returned (.pointer (some ⟨N, 0, none⟩)) ∧ w.heap.size ≤ N ∧ w'.heap[N]? = some (.cells #[.string fn, .string s, ev] 248 (0, 0)) ∧ Below w.heap.size w w' := Any.strconv_syntaxError Tryz.laysM279 fn s ev w hlim hv hev
def Tryz.laysC245_ren : Go.Shelf.Ren := ⟨fun | 245 => 167 | 279 => 169 | 280 => 170 | 281 => 171 | 282 => 172 | 316 => 175 | 171 => 176 | 205 => 106 | 243 => 177 | 246 => 178 | 283 => 179 | 284 => 180 | 285 => 181 | 286 => 182 | 129 => 128 | 317 => 183 | 318 => 184 | 319 => 185 | 320 => 186 | 337 => 187 | 338 => 188 | n => n, fun | 9 => 9 | 3 => 3 | 75 => 80 | 167 => 240 | 4 => 4 | 168 => 243 | 210 => 248 | 37 => 83 | 0 => 0 | 127 => 128 | 145 => 198 | 143 => 196 | 2 => 2 | 171 => 251 | 53 => 132 | 5 => 5 | 173 => 253 | 212 => 257 | 51 => 192 | 20 => 20 | 213 => 258 | 46 => 75 | 232 => 260 | 233 => 261 | 80 => 93 | n => n, fun | 15 => 3 | 16 => 4 | 17 => 5 | 18 => 6 | 19 => 7 | n => n⟩
theorem Tryz.laysC245 : Go.Proofs.LaysC.n245 Tryz.prog Tryz.laysC245_ren := {
  mixed := by kernel_rfl
  f129 := Tryz.func128.trans (congrArg some (by kernel_rfl))
  f171 := Tryz.func176.trans (congrArg some (by kernel_rfl))
  f205 := Tryz.func106.trans (congrArg some (by kernel_rfl))
  f243 := Tryz.func177.trans (congrArg some (by kernel_rfl))
  f245 := Tryz.func167.trans (congrArg some (by kernel_rfl))
  f246 := Tryz.func178.trans (congrArg some (by kernel_rfl))
  f279 := Tryz.func169.trans (congrArg some (by kernel_rfl))
  f280 := Tryz.func170.trans (congrArg some (by kernel_rfl))
  f281 := Tryz.func171.trans (congrArg some (by kernel_rfl))
  f282 := Tryz.func172.trans (congrArg some (by kernel_rfl))
  f283 := Tryz.func179.trans (congrArg some (by kernel_rfl))
  f284 := Tryz.func180.trans (congrArg some (by kernel_rfl))
  f285 := Tryz.func181.trans (congrArg some (by kernel_rfl))
  f286 := Tryz.func182.trans (congrArg some (by kernel_rfl))
  f316 := Tryz.func175.trans (congrArg some (by kernel_rfl))
  f317 := Tryz.func183.trans (congrArg some (by kernel_rfl))
  f318 := Tryz.func184.trans (congrArg some (by kernel_rfl))
  f319 := Tryz.func185.trans (congrArg some (by kernel_rfl))
  f320 := Tryz.func186.trans (congrArg some (by kernel_rfl))
  f337 := Tryz.func187.trans (congrArg some (by kernel_rfl))
  f338 := Tryz.func188.trans (congrArg some (by kernel_rfl))
  t0 := Tryz.underlying0
  a0 := Tryz.isAgg0
  z0 := Tryz.sizeOf0
  v0 := Tryz.zeroValue0
  t2 := Tryz.underlying2
  a2 := Tryz.isAgg2
  z2 := Tryz.sizeOf2
  v2 := Tryz.zeroValue2
  t3 := Tryz.underlying3
  a3 := Tryz.isAgg3
  z3 := Tryz.sizeOf3
  v3 := Tryz.zeroValue3
  t4 := Tryz.underlying4
  a4 := Tryz.isAgg4
  z4 := Tryz.sizeOf4
  v4 := Tryz.zeroValue4
  t5 := Tryz.underlying5
  a5 := Tryz.isAgg5
  z5 := Tryz.sizeOf5
  v5 := Tryz.zeroValue5
  t9 := Tryz.underlying9
  a9 := Tryz.isAgg9
  z9 := Tryz.sizeOf9
  v9 := Tryz.zeroValue9
  t20 := Tryz.underlying20
  a20 := Tryz.isAgg20
  z20 := Tryz.sizeOf20
  v20 := Tryz.zeroValue20
  t37 := Tryz.underlying83
  a37 := Tryz.isAgg83
  z37 := Tryz.sizeOf83
  v37 := Tryz.zeroValue83
  t46 := Tryz.underlying75
  a46 := Tryz.isAgg75
  z46 := Tryz.sizeOf75
  v46 := Tryz.zeroValue75
  t51 := Tryz.underlying192
  a51 := Tryz.isAgg192
  z51 := Tryz.sizeOf192
  v51 := Tryz.zeroValue192
  t53 := Tryz.underlying132
  a53 := Tryz.isAgg132
  z53 := Tryz.sizeOf132
  v53 := Tryz.zeroValue132
  t75 := Tryz.underlying80
  a75 := Tryz.isAgg80
  z75 := Tryz.sizeOf80
  v75 := Tryz.zeroValue80
  t127 := Tryz.underlying128
  a127 := Tryz.isAgg128
  z127 := Tryz.sizeOf128
  v127 := Tryz.zeroValue128
  t143 := Tryz.underlying196
  a143 := Tryz.isAgg196
  z143 := Tryz.sizeOf196
  v143 := Tryz.zeroValue196
  t145 := Tryz.underlying198
  a145 := Tryz.isAgg198
  z145 := Tryz.sizeOf198
  v145 := Tryz.zeroValue198
  t167 := Tryz.underlying240
  a167 := Tryz.isAgg240
  z167 := Tryz.sizeOf240
  v167 := Tryz.zeroValue240
  t168 := Tryz.underlying243
  a168 := Tryz.isAgg243
  z168 := Tryz.sizeOf243
  v168 := Tryz.zeroValue243
  t171 := Tryz.underlying251
  a171 := Tryz.isAgg251
  z171 := Tryz.sizeOf251
  v171 := Tryz.zeroValue251
  t173 := Tryz.underlying253
  a173 := Tryz.isAgg253
  z173 := Tryz.sizeOf253
  v173 := Tryz.zeroValue253
  t210 := Tryz.underlying248
  a210 := Tryz.isAgg248
  z210 := Tryz.sizeOf248
  v210 := Tryz.zeroValue248
  t212 := Tryz.underlying257
  a212 := Tryz.isAgg257
  z212 := Tryz.sizeOf257
  v212 := Tryz.zeroValue257
  t213 := Tryz.underlying258
  a213 := Tryz.isAgg258
  z213 := Tryz.sizeOf258
  t232 := Tryz.underlying260
  a232 := Tryz.isAgg260
  z232 := Tryz.sizeOf260
  v232 := Tryz.zeroValue260
  t233 := Tryz.underlying261
  a233 := Tryz.isAgg261
  z233 := Tryz.sizeOf261
  v233 := Tryz.zeroValue261
  g15 := by kernel_rfl
  g16 := by kernel_rfl
  g17 := by kernel_rfl
  g18 := by kernel_rfl
  g19 := by kernel_rfl
  t80 := Tryz.underlying93
  a80 := Tryz.isAgg93
  z80 := Tryz.sizeOf93
  v80 := Tryz.zeroValue93
  i0 := by kernel_rfl
  i2 := by kernel_rfl
  i3 := by kernel_rfl
  i4 := by kernel_rfl
  i5 := by kernel_rfl
  i9 := by kernel_rfl
  i20 := by kernel_rfl
  i37 := by kernel_rfl
  i46 := by kernel_rfl
  i51 := by kernel_rfl
  i53 := by kernel_rfl
  i75 := by kernel_rfl
  i80 := by kernel_rfl
  i127 := by kernel_rfl
  i143 := by kernel_rfl
  i145 := by kernel_rfl
  i167 := by kernel_rfl
  i168 := by kernel_rfl
  i171 := by kernel_rfl
  i173 := by kernel_rfl
  i210 := by kernel_rfl
  i212 := by kernel_rfl
  i232 := by kernel_rfl
  i233 := by kernel_rfl
  m15 := by kernel_rfl
  m16 := by kernel_rfl
  m17 := by kernel_rfl
  m18 := by kernel_rfl
  m19 := by kernel_rfl
  c0 := by kernel_rfl
  c2 := by kernel_rfl
  c3 := by kernel_rfl
  c4 := by kernel_rfl
  c5 := by kernel_rfl
  c9 := by kernel_rfl
  c20 := by kernel_rfl
  c37 := by kernel_rfl
  c46 := by kernel_rfl
  c51 := by kernel_rfl
  c53 := by kernel_rfl
  c75 := by kernel_rfl
  c80 := by kernel_rfl
  c127 := by kernel_rfl
  c143 := by kernel_rfl
  c145 := by kernel_rfl
  c167 := by kernel_rfl
  c168 := by kernel_rfl
  c171 := by kernel_rfl
  c173 := by kernel_rfl
  c210 := by kernel_rfl
  c212 := by kernel_rfl
  c213 := by kernel_rfl
  c232 := by kernel_rfl
  c233 := by kernel_rfl }
open Go.RowKit in
/-- strconv.toError, at the inner package's ErrSyntax: 'syntaxError(fn, s)' as an error: A *NumError IN A NEW BLOCK. (LAID: no walk: one application.) -/
theorem Tryz.strconv_toError_syntax (fn s : ByteArray) (base bits : Int) (ev : Value) (w : World) (hlim : s.size ≤ 281474976710656) (hv : w.cell? ⟨3, 0, none⟩ = some ev) (hev : ev = .nilIface ∨ ∃ te pe, ev = .iface te pe) :
    Calls Tryz.prog 167 #[.string fn, .string s, .int .i64 base, .int .i64 bits, .iface 240 (.int .i64 2)] w fun e w' => ∃ N, e = .returned (.iface 243 (.pointer (some ⟨N, 0, none⟩))) ∧ w.heap.size ≤ N ∧ w'.heap[N]? = some (.cells #[.string fn, .string s, ev] 248 (0, 0)) ∧ Below w.heap.size w w' := Any.strconv_toError_syntax Tryz.laysC245 fn s base bits ev w hlim hv hev
def Tryz.lays321_ren : Go.Shelf.Ren := ⟨fun | 321 => 173 | n => n, fun | 5 => 5 | n => n, fun | n => n⟩
theorem Tryz.lays321 : Go.Proofs.Lays.n321 Tryz.prog Tryz.lays321_ren := {
  mixed := by kernel_rfl
  f321 := Tryz.func173.trans (congrArg some (by kernel_rfl))
  t5 := Tryz.underlying5
  a5 := Tryz.isAgg5
  z5 := Tryz.sizeOf5
  v5 := Tryz.zeroValue5 }
open Go.RowKit in
/-- internal/strconv.lower: 'c | ('x' - 'X')': the bit 32 set. The world is as it was. (LAID: no walk: one application.) -/
theorem Tryz.internal_strconv_lower (c : Int) (w : World) :
    Calls Tryz.prog 173 #[.int .u8 c] w fun e w' => e = .returned (.int .u8 (bits .or .u8 c 32)) ∧ w' = w := Any.internal_strconv_lower Tryz.lays321 c w
def Tryz.lays287_ren : Go.Shelf.Ren := ⟨fun | 287 => 168 | 321 => 173 | 322 => 174 | n => n, fun | 9 => 9 | 3 => 3 | 53 => 132 | 75 => 80 | 4 => 4 | 167 => 240 | 5 => 5 | 46 => 75 | 37 => 83 | 0 => 0 | 21 => 21 | 80 => 93 | n => n, fun | n => n⟩
theorem Tryz.lays287 : Go.Proofs.Lays.n287 Tryz.prog Tryz.lays287_ren := {
  mixed := by kernel_rfl
  f287 := Tryz.func168.trans (congrArg some (by kernel_rfl))
  f321 := Tryz.func173.trans (congrArg some (by kernel_rfl))
  f322 := Tryz.func174.trans (congrArg some (by kernel_rfl))
  t0 := Tryz.underlying0
  a0 := Tryz.isAgg0
  z0 := Tryz.sizeOf0
  v0 := Tryz.zeroValue0
  t3 := Tryz.underlying3
  a3 := Tryz.isAgg3
  z3 := Tryz.sizeOf3
  v3 := Tryz.zeroValue3
  t4 := Tryz.underlying4
  a4 := Tryz.isAgg4
  z4 := Tryz.sizeOf4
  v4 := Tryz.zeroValue4
  t5 := Tryz.underlying5
  a5 := Tryz.isAgg5
  z5 := Tryz.sizeOf5
  v5 := Tryz.zeroValue5
  t9 := Tryz.underlying9
  a9 := Tryz.isAgg9
  z9 := Tryz.sizeOf9
  v9 := Tryz.zeroValue9
  t21 := Tryz.underlying21
  a21 := Tryz.isAgg21
  z21 := Tryz.sizeOf21
  v21 := Tryz.zeroValue21
  t37 := Tryz.underlying83
  a37 := Tryz.isAgg83
  z37 := Tryz.sizeOf83
  v37 := Tryz.zeroValue83
  t46 := Tryz.underlying75
  a46 := Tryz.isAgg75
  z46 := Tryz.sizeOf75
  v46 := Tryz.zeroValue75
  t53 := Tryz.underlying132
  a53 := Tryz.isAgg132
  z53 := Tryz.sizeOf132
  v53 := Tryz.zeroValue132
  t75 := Tryz.underlying80
  a75 := Tryz.isAgg80
  z75 := Tryz.sizeOf80
  v75 := Tryz.zeroValue80
  t167 := Tryz.underlying240
  a167 := Tryz.isAgg240
  z167 := Tryz.sizeOf240
  v167 := Tryz.zeroValue240 }
open Go.RowKit in
/-- internal/strconv.ParseUint(s, 10, 0), s NOT EMPTY: 'Lib.parseUint10 0' OF ITS BYTES: the number; or (0, ErrSyntax); or (the greatest uint64, ErrRange). The world behind the call: the one new row that '[]byte(s)' lays. (LAID: no walk: one application.) -/
theorem Tryz.internal_strconv_ParseUint_10 (t : ByteArray) (hne : t.size ≠ 0) (hmax : t.size ≤ 9223372036854775806) (w : World) :
    Calls Tryz.prog 168 #[.string t, .int .i64 10, .int .i64 0] w fun e w' => e = .returned (Lib.uintTuple 240 (Lib.parseUint10 0 t.data.toList)) ∧ w' = Lib.bytesWorld w 5 t := Any.internal_strconv_ParseUint_10 Tryz.lays287 t hne hmax w
open Go.RowKit in
/-- internal/strconv.ParseUint(s, 10, 0): 'Lib.parseMag' OF ITS BYTES. The world: as it was (the empty string), or with the one new row that '[]byte(s)' lays. (LAID: no walk: one application.) -/
theorem Tryz.internal_strconv_ParseUint_10_any (t : ByteArray) (hmax : t.size ≤ 9223372036854775806) (w : World) :
    Calls Tryz.prog 168 #[.string t, .int .i64 10, .int .i64 0] w fun e w' => e = .returned (Lib.uintTuple 240 (Lib.parseMag t.data.toList)) ∧ (w' = w ∨ w' = Lib.bytesWorld w 5 t) := Any.internal_strconv_ParseUint_10_any Tryz.lays287 t hmax w
def Tryz.laysC247_ren : Go.Shelf.Ren := ⟨fun | 247 => 166 | 287 => 168 | 321 => 173 | 322 => 174 | n => n, fun | 9 => 9 | 3 => 3 | 2 => 2 | 75 => 80 | 4 => 4 | 167 => 240 | 5 => 5 | 53 => 132 | 175 => 241 | 46 => 75 | 37 => 83 | 0 => 0 | 21 => 21 | 80 => 93 | n => n, fun | n => n⟩
theorem Tryz.laysC247 : Go.Proofs.LaysC.n247 Tryz.prog Tryz.laysC247_ren := {
  mixed := by kernel_rfl
  f247 := Tryz.func166.trans (congrArg some (by kernel_rfl))
  f287 := Tryz.func168.trans (congrArg some (by kernel_rfl))
  f321 := Tryz.func173.trans (congrArg some (by kernel_rfl))
  f322 := Tryz.func174.trans (congrArg some (by kernel_rfl))
  t0 := Tryz.underlying0
  a0 := Tryz.isAgg0
  z0 := Tryz.sizeOf0
  v0 := Tryz.zeroValue0
  t2 := Tryz.underlying2
  a2 := Tryz.isAgg2
  z2 := Tryz.sizeOf2
  v2 := Tryz.zeroValue2
  t3 := Tryz.underlying3
  a3 := Tryz.isAgg3
  z3 := Tryz.sizeOf3
  v3 := Tryz.zeroValue3
  t4 := Tryz.underlying4
  a4 := Tryz.isAgg4
  z4 := Tryz.sizeOf4
  v4 := Tryz.zeroValue4
  t5 := Tryz.underlying5
  a5 := Tryz.isAgg5
  z5 := Tryz.sizeOf5
  v5 := Tryz.zeroValue5
  t9 := Tryz.underlying9
  a9 := Tryz.isAgg9
  z9 := Tryz.sizeOf9
  v9 := Tryz.zeroValue9
  t21 := Tryz.underlying21
  a21 := Tryz.isAgg21
  z21 := Tryz.sizeOf21
  v21 := Tryz.zeroValue21
  t37 := Tryz.underlying83
  a37 := Tryz.isAgg83
  z37 := Tryz.sizeOf83
  v37 := Tryz.zeroValue83
  t46 := Tryz.underlying75
  a46 := Tryz.isAgg75
  z46 := Tryz.sizeOf75
  v46 := Tryz.zeroValue75
  t53 := Tryz.underlying132
  a53 := Tryz.isAgg132
  z53 := Tryz.sizeOf132
  v53 := Tryz.zeroValue132
  t75 := Tryz.underlying80
  a75 := Tryz.isAgg80
  z75 := Tryz.sizeOf80
  v75 := Tryz.zeroValue80
  t167 := Tryz.underlying240
  a167 := Tryz.isAgg240
  z167 := Tryz.sizeOf240
  v167 := Tryz.zeroValue240
  t175 := Tryz.underlying241
  a175 := Tryz.isAgg241
  z175 := Tryz.sizeOf241
  v175 := Tryz.zeroValue241
  t80 := Tryz.underlying93
  a80 := Tryz.isAgg93
  z80 := Tryz.sizeOf93
  v80 := Tryz.zeroValue93
  i0 := by kernel_rfl
  i2 := by kernel_rfl
  i3 := by kernel_rfl
  i4 := by kernel_rfl
  i5 := by kernel_rfl
  i9 := by kernel_rfl
  i21 := by kernel_rfl
  i37 := by kernel_rfl
  i46 := by kernel_rfl
  i53 := by kernel_rfl
  i75 := by kernel_rfl
  i80 := by kernel_rfl
  i167 := by kernel_rfl
  i175 := by kernel_rfl
  c0 := by kernel_rfl
  c2 := by kernel_rfl
  c3 := by kernel_rfl
  c4 := by kernel_rfl
  c5 := by kernel_rfl
  c9 := by kernel_rfl
  c21 := by kernel_rfl
  c37 := by kernel_rfl
  c46 := by kernel_rfl
  c53 := by kernel_rfl
  c75 := by kernel_rfl
  c80 := by kernel_rfl
  c167 := by kernel_rfl
  c175 := by kernel_rfl }
open Go.RowKit in
/-- internal/strconv.ParseInt(s, 10, 0), s NOT EMPTY: 'Lib.atoiAll' OF ITS BYTES: (the number, nil); (0, ErrSyntax); (the greatest or the least int64 by the sign, ErrRange). The world: as it was, or with the one new row that '[]byte(..)' lays. (LAID: no walk: one application.) -/
theorem Tryz.internal_strconv_ParseInt_10 (s : ByteArray) (hne : s.size ≠ 0) (hmax : s.size ≤ 9223372036854775806) (w : World) :
    Calls Tryz.prog 166 #[.string s, .int .i64 10, .int .i64 0] w fun e w' => e = .returned (Lib.intTuple 240 (Lib.atoiSat s.data.toList) (Lib.atoiAll s.data.toList)) ∧ (w' = w ∨ ∃ t, w' = Lib.bytesWorld w 5 t) := Any.internal_strconv_ParseInt_10 Tryz.laysC247 s hne hmax w
def Tryz.laysM280_ren : Go.Shelf.Ren := ⟨fun | 280 => 170 | 316 => 175 | n => n, fun | 9 => 9 | 168 => 243 | 75 => 80 | 210 => 248 | 3 => 3 | 4 => 4 | 37 => 83 | 0 => 0 | 127 => 128 | 80 => 93 | 5 => 5 | n => n, fun | 16 => 4 | n => n⟩
theorem Tryz.laysM280 : Go.Proofs.LaysM.n280 Tryz.prog Tryz.laysM280_ren := {
  mixed := by kernel_rfl
  f280 := Tryz.func170.trans (congrArg some (by kernel_rfl))
  f316 := Tryz.func175.trans (congrArg some (by kernel_rfl))
  t0 := Tryz.underlying0
  a0 := Tryz.isAgg0
  z0 := Tryz.sizeOf0
  v0 := Tryz.zeroValue0
  t3 := Tryz.underlying3
  a3 := Tryz.isAgg3
  z3 := Tryz.sizeOf3
  v3 := Tryz.zeroValue3
  t4 := Tryz.underlying4
  a4 := Tryz.isAgg4
  z4 := Tryz.sizeOf4
  v4 := Tryz.zeroValue4
  t9 := Tryz.underlying9
  a9 := Tryz.isAgg9
  z9 := Tryz.sizeOf9
  v9 := Tryz.zeroValue9
  t37 := Tryz.underlying83
  a37 := Tryz.isAgg83
  z37 := Tryz.sizeOf83
  v37 := Tryz.zeroValue83
  t75 := Tryz.underlying80
  a75 := Tryz.isAgg80
  z75 := Tryz.sizeOf80
  v75 := Tryz.zeroValue80
  t127 := Tryz.underlying128
  a127 := Tryz.isAgg128
  z127 := Tryz.sizeOf128
  v127 := Tryz.zeroValue128
  t168 := Tryz.underlying243
  a168 := Tryz.isAgg243
  z168 := Tryz.sizeOf243
  v168 := Tryz.zeroValue243
  t210 := Tryz.underlying248
  a210 := Tryz.isAgg248
  z210 := Tryz.sizeOf248
  v210 := Tryz.zeroValue248
  g16 := by kernel_rfl
  t5 := Tryz.underlying5
  a5 := Tryz.isAgg5
  z5 := Tryz.sizeOf5
  v5 := Tryz.zeroValue5
  t80 := Tryz.underlying93
  a80 := Tryz.isAgg93
  z80 := Tryz.sizeOf93
  v80 := Tryz.zeroValue93
  i0 := by kernel_rfl
  i3 := by kernel_rfl
  i4 := by kernel_rfl
  i5 := by kernel_rfl
  i9 := by kernel_rfl
  i37 := by kernel_rfl
  i75 := by kernel_rfl
  i80 := by kernel_rfl
  i127 := by kernel_rfl
  i168 := by kernel_rfl
  i210 := by kernel_rfl
  m16 := by kernel_rfl }
open Go.RowKit in
/-- strconv.rangeError: '&NumError{fn, stringslite.Clone(str), ErrRange}': A POINTER TO A NEW BLOCK that holds fn, str's bytes, and what the variable ErrRange holds. Of what was there nothing has turned. (LAID: no walk: one application.) -/
theorem Tryz.strconv_rangeError (fn s : ByteArray) (ev : Value) (w : World) (hlim : s.size ≤ 281474976710656) (hv : w.cell? ⟨4, 0, none⟩ = some ev) (hev : ev = .nilIface ∨ ∃ te pe, ev = .iface te pe) :
    Calls Tryz.prog 170 #[.string fn, .string s] w fun e w' => ∃ N, e = .returned (.pointer (some ⟨N, 0, none⟩)) ∧ w.heap.size ≤ N ∧ w'.heap[N]? = some (.cells #[.string fn, .string s, ev] 248 (0, 0)) ∧ Below w.heap.size w w' := Any.strconv_rangeError Tryz.laysM280 fn s ev w hlim hv hev
open Go.RowKit in
/-- strconv.toError, at the inner package's ErrRange: 'rangeError(fn, s)' as an error: A *NumError IN A NEW BLOCK. (LAID: no walk: one application.) -/
theorem Tryz.strconv_toError_range (fn s : ByteArray) (base bits : Int) (ev : Value) (w : World) (hlim : s.size ≤ 281474976710656) (hv : w.cell? ⟨4, 0, none⟩ = some ev) (hev : ev = .nilIface ∨ ∃ te pe, ev = .iface te pe) :
    Calls Tryz.prog 167 #[.string fn, .string s, .int .i64 base, .int .i64 bits, .iface 240 (.int .i64 1)] w fun e w' => ∃ N, e = .returned (.iface 243 (.pointer (some ⟨N, 0, none⟩))) ∧ w.heap.size ≤ N ∧ w'.heap[N]? = some (.cells #[.string fn, .string s, ev] 248 (0, 0)) ∧ Below w.heap.size w w' := Any.strconv_toError_range Tryz.laysC245 fn s base bits ev w hlim hv hev
open Go.RowKit in
/-- internal/strconv.ParseUint("", base, bitSize): (0, ErrSyntax): the first test of the text. The world is as it was. (LAID: no walk: one application.) -/
theorem Tryz.internal_strconv_ParseUint_empty (base bits : Int) (w : World) :
    Calls Tryz.prog 168 #[.string ⟨#[]⟩, .int .i64 base, .int .i64 bits] w fun e w' => e = .returned (.tuple #[.int .u64 0, .iface 240 (.int .i64 2)]) ∧ w' = w := Any.internal_strconv_ParseUint_empty Tryz.lays287 base bits w
open Go.RowKit in
/-- internal/strconv.ParseUint(s, 10, 64), s NOT EMPTY: 'Lib.parseUint10 0' OF ITS BYTES: the number; or (0, ErrSyntax); or (the greatest uint64, ErrRange). The world behind the call: the one new row that '[]byte(s)' lays. (LAID: no walk: one application.) -/
theorem Tryz.internal_strconv_ParseUint_10_b64 (t : ByteArray) (hne : t.size ≠ 0) (hmax : t.size ≤ 9223372036854775806) (w : World) :
    Calls Tryz.prog 168 #[.string t, .int .i64 10, .int .i64 64] w fun e w' => e = .returned (Lib.uintTuple 240 (Lib.parseUint10 0 t.data.toList)) ∧ w' = Lib.bytesWorld w 5 t := Any.internal_strconv_ParseUint_10_b64 Tryz.lays287 t hne hmax w
open Go.RowKit in
/-- internal/strconv.ParseUint(s, 10, 32), s NOT EMPTY: 'Lib.parseUintM 4294967295 0' OF ITS BYTES: the number; or (0, ErrSyntax); or (the greatest uint32, ErrRange). The world behind the call: the one new row that '[]byte(s)' lays. (LAID: no walk: one application.) -/
theorem Tryz.internal_strconv_ParseUint_10_b32 (t : ByteArray) (hne : t.size ≠ 0) (hmax : t.size ≤ 9223372036854775806) (w : World) :
    Calls Tryz.prog 168 #[.string t, .int .i64 10, .int .i64 32] w fun e w' => e = .returned (Lib.uintTupleM 240 4294967295 (Lib.parseUintM 4294967295 0 t.data.toList)) ∧ w' = Lib.bytesWorld w 5 t := Any.internal_strconv_ParseUint_10_b32 Tryz.lays287 t hne hmax w
open Go.RowKit in
/-- internal/strconv.ParseUint(s, 10, 16), s NOT EMPTY: 'Lib.parseUintM 65535 0' OF ITS BYTES: the number; or (0, ErrSyntax); or (the greatest uint16, ErrRange). The world behind the call: the one new row that '[]byte(s)' lays. (LAID: no walk: one application.) -/
theorem Tryz.internal_strconv_ParseUint_10_b16 (t : ByteArray) (hne : t.size ≠ 0) (hmax : t.size ≤ 9223372036854775806) (w : World) :
    Calls Tryz.prog 168 #[.string t, .int .i64 10, .int .i64 16] w fun e w' => e = .returned (Lib.uintTupleM 240 65535 (Lib.parseUintM 65535 0 t.data.toList)) ∧ w' = Lib.bytesWorld w 5 t := Any.internal_strconv_ParseUint_10_b16 Tryz.lays287 t hne hmax w
open Go.RowKit in
/-- internal/strconv.ParseUint(s, 10, 8), s NOT EMPTY: 'Lib.parseUintM 255 0' OF ITS BYTES: the number; or (0, ErrSyntax); or (the greatest uint8, ErrRange). The world behind the call: the one new row that '[]byte(s)' lays. (LAID: no walk: one application.) -/
theorem Tryz.internal_strconv_ParseUint_10_b8 (t : ByteArray) (hne : t.size ≠ 0) (hmax : t.size ≤ 9223372036854775806) (w : World) :
    Calls Tryz.prog 168 #[.string t, .int .i64 10, .int .i64 8] w fun e w' => e = .returned (Lib.uintTupleM 240 255 (Lib.parseUintM 255 0 t.data.toList)) ∧ w' = Lib.bytesWorld w 5 t := Any.internal_strconv_ParseUint_10_b8 Tryz.lays287 t hne hmax w
open Go.RowKit in
/-- internal/strconv.ParseUint(s, 10, 0): 'Lib.parseUintB 64' OF ITS BYTES. The world: as it was (the empty string), or with the one new row that '[]byte(s)' lays. (LAID: no walk: one application.) -/
theorem Tryz.internal_strconv_ParseUint_10_at0 (t : ByteArray) (hmax : t.size ≤ 9223372036854775806) (w : World) :
    Calls Tryz.prog 168 #[.string t, .int .i64 10, .int .i64 0] w fun e w' => e = .returned (Lib.uintTupleM 240 18446744073709551615 (Lib.parseUintB 64 t.data.toList)) ∧ (w' = w ∨ w' = Lib.bytesWorld w 5 t) := Any.internal_strconv_ParseUint_10_at0 Tryz.lays287 t hmax w
open Go.RowKit in
/-- internal/strconv.ParseUint(s, 10, 64): 'Lib.parseUintB 64' OF ITS BYTES. The world: as it was (the empty string), or with the one new row that '[]byte(s)' lays. (LAID: no walk: one application.) -/
theorem Tryz.internal_strconv_ParseUint_10_at64 (t : ByteArray) (hmax : t.size ≤ 9223372036854775806) (w : World) :
    Calls Tryz.prog 168 #[.string t, .int .i64 10, .int .i64 64] w fun e w' => e = .returned (Lib.uintTupleM 240 18446744073709551615 (Lib.parseUintB 64 t.data.toList)) ∧ (w' = w ∨ w' = Lib.bytesWorld w 5 t) := Any.internal_strconv_ParseUint_10_at64 Tryz.lays287 t hmax w
open Go.RowKit in
/-- internal/strconv.ParseUint(s, 10, 32): 'Lib.parseUintB 32' OF ITS BYTES. The world: as it was (the empty string), or with the one new row that '[]byte(s)' lays. (LAID: no walk: one application.) -/
theorem Tryz.internal_strconv_ParseUint_10_at32 (t : ByteArray) (hmax : t.size ≤ 9223372036854775806) (w : World) :
    Calls Tryz.prog 168 #[.string t, .int .i64 10, .int .i64 32] w fun e w' => e = .returned (Lib.uintTupleM 240 4294967295 (Lib.parseUintB 32 t.data.toList)) ∧ (w' = w ∨ w' = Lib.bytesWorld w 5 t) := Any.internal_strconv_ParseUint_10_at32 Tryz.lays287 t hmax w
open Go.RowKit in
/-- internal/strconv.ParseUint(s, 10, 16): 'Lib.parseUintB 16' OF ITS BYTES. The world: as it was (the empty string), or with the one new row that '[]byte(s)' lays. (LAID: no walk: one application.) -/
theorem Tryz.internal_strconv_ParseUint_10_at16 (t : ByteArray) (hmax : t.size ≤ 9223372036854775806) (w : World) :
    Calls Tryz.prog 168 #[.string t, .int .i64 10, .int .i64 16] w fun e w' => e = .returned (Lib.uintTupleM 240 65535 (Lib.parseUintB 16 t.data.toList)) ∧ (w' = w ∨ w' = Lib.bytesWorld w 5 t) := Any.internal_strconv_ParseUint_10_at16 Tryz.lays287 t hmax w
open Go.RowKit in
/-- internal/strconv.ParseUint(s, 10, 8): 'Lib.parseUintB 8' OF ITS BYTES. The world: as it was (the empty string), or with the one new row that '[]byte(s)' lays. (LAID: no walk: one application.) -/
theorem Tryz.internal_strconv_ParseUint_10_at8 (t : ByteArray) (hmax : t.size ≤ 9223372036854775806) (w : World) :
    Calls Tryz.prog 168 #[.string t, .int .i64 10, .int .i64 8] w fun e w' => e = .returned (Lib.uintTupleM 240 255 (Lib.parseUintB 8 t.data.toList)) ∧ (w' = w ∨ w' = Lib.bytesWorld w 5 t) := Any.internal_strconv_ParseUint_10_at8 Tryz.lays287 t hmax w
open Go.RowKit in
/-- internal/strconv.ParseInt(s, 10, 64), s NOT EMPTY: 'Lib.parseIntB 64' OF ITS BYTES: (the number, nil); (0, ErrSyntax); (the greatest or the least int64 by the sign, ErrRange). The world: as it was, or with the one new row that '[]byte(..)' lays. (LAID: no walk: one application.) -/
theorem Tryz.internal_strconv_ParseInt_10_at64 (s : ByteArray) (hne : s.size ≠ 0) (hmax : s.size ≤ 9223372036854775806) (w : World) :
    Calls Tryz.prog 166 #[.string s, .int .i64 10, .int .i64 64] w fun e w' => e = .returned (Lib.intTuple 240 (Lib.intSat 64 s.data.toList) (Lib.parseIntB 64 s.data.toList)) ∧ (w' = w ∨ ∃ t, w' = Lib.bytesWorld w 5 t) := Any.internal_strconv_ParseInt_10_at64 Tryz.laysC247 s hne hmax w
open Go.RowKit in
/-- internal/strconv.ParseInt(s, 10, 32), s NOT EMPTY: 'Lib.parseIntB 32' OF ITS BYTES: (the number, nil); (0, ErrSyntax); (the greatest or the least int32 by the sign, ErrRange). The world: as it was, or with the one new row that '[]byte(..)' lays. (LAID: no walk: one application.) -/
theorem Tryz.internal_strconv_ParseInt_10_at32 (s : ByteArray) (hne : s.size ≠ 0) (hmax : s.size ≤ 9223372036854775806) (w : World) :
    Calls Tryz.prog 166 #[.string s, .int .i64 10, .int .i64 32] w fun e w' => e = .returned (Lib.intTuple 240 (Lib.intSat 32 s.data.toList) (Lib.parseIntB 32 s.data.toList)) ∧ (w' = w ∨ ∃ t, w' = Lib.bytesWorld w 5 t) := Any.internal_strconv_ParseInt_10_at32 Tryz.laysC247 s hne hmax w
open Go.RowKit in
/-- internal/strconv.ParseInt(s, 10, 16), s NOT EMPTY: 'Lib.parseIntB 16' OF ITS BYTES: (the number, nil); (0, ErrSyntax); (the greatest or the least int16 by the sign, ErrRange). The world: as it was, or with the one new row that '[]byte(..)' lays. (LAID: no walk: one application.) -/
theorem Tryz.internal_strconv_ParseInt_10_at16 (s : ByteArray) (hne : s.size ≠ 0) (hmax : s.size ≤ 9223372036854775806) (w : World) :
    Calls Tryz.prog 166 #[.string s, .int .i64 10, .int .i64 16] w fun e w' => e = .returned (Lib.intTuple 240 (Lib.intSat 16 s.data.toList) (Lib.parseIntB 16 s.data.toList)) ∧ (w' = w ∨ ∃ t, w' = Lib.bytesWorld w 5 t) := Any.internal_strconv_ParseInt_10_at16 Tryz.laysC247 s hne hmax w
open Go.RowKit in
/-- internal/strconv.ParseInt(s, 10, 8), s NOT EMPTY: 'Lib.parseIntB 8' OF ITS BYTES: (the number, nil); (0, ErrSyntax); (the greatest or the least int8 by the sign, ErrRange). The world: as it was, or with the one new row that '[]byte(..)' lays. (LAID: no walk: one application.) -/
theorem Tryz.internal_strconv_ParseInt_10_at8 (s : ByteArray) (hne : s.size ≠ 0) (hmax : s.size ≤ 9223372036854775806) (w : World) :
    Calls Tryz.prog 166 #[.string s, .int .i64 10, .int .i64 8] w fun e w' => e = .returned (Lib.intTuple 240 (Lib.intSat 8 s.data.toList) (Lib.parseIntB 8 s.data.toList)) ∧ (w' = w ∨ ∃ t, w' = Lib.bytesWorld w 5 t) := Any.internal_strconv_ParseInt_10_at8 Tryz.laysC247 s hne hmax w
open Go.RowKit in
/-- internal/strconv.ParseInt(s, 10, 0), AT EVERY STRING: 'Lib.parseIntB 64' OF ITS BYTES. (LAID: no walk: one application.) -/
theorem Tryz.internal_strconv_ParseInt_10_all0 (s : ByteArray) (hmax : s.size ≤ 9223372036854775806) (w : World) :
    Calls Tryz.prog 166 #[.string s, .int .i64 10, .int .i64 0] w fun e w' => e = .returned (Lib.intTuple 240 (Lib.intSat 64 s.data.toList) (Lib.parseIntB 64 s.data.toList)) ∧ (w' = w ∨ ∃ t, w' = Lib.bytesWorld w 5 t) := Any.internal_strconv_ParseInt_10_all0 Tryz.laysC247 s hmax w
open Go.RowKit in
/-- internal/strconv.ParseInt(s, 10, 64), AT EVERY STRING: 'Lib.parseIntB 64' OF ITS BYTES. (LAID: no walk: one application.) -/
theorem Tryz.internal_strconv_ParseInt_10_all64 (s : ByteArray) (hmax : s.size ≤ 9223372036854775806) (w : World) :
    Calls Tryz.prog 166 #[.string s, .int .i64 10, .int .i64 64] w fun e w' => e = .returned (Lib.intTuple 240 (Lib.intSat 64 s.data.toList) (Lib.parseIntB 64 s.data.toList)) ∧ (w' = w ∨ ∃ t, w' = Lib.bytesWorld w 5 t) := Any.internal_strconv_ParseInt_10_all64 Tryz.laysC247 s hmax w
open Go.RowKit in
/-- internal/strconv.ParseInt(s, 10, 32), AT EVERY STRING: 'Lib.parseIntB 32' OF ITS BYTES. (LAID: no walk: one application.) -/
theorem Tryz.internal_strconv_ParseInt_10_all32 (s : ByteArray) (hmax : s.size ≤ 9223372036854775806) (w : World) :
    Calls Tryz.prog 166 #[.string s, .int .i64 10, .int .i64 32] w fun e w' => e = .returned (Lib.intTuple 240 (Lib.intSat 32 s.data.toList) (Lib.parseIntB 32 s.data.toList)) ∧ (w' = w ∨ ∃ t, w' = Lib.bytesWorld w 5 t) := Any.internal_strconv_ParseInt_10_all32 Tryz.laysC247 s hmax w
open Go.RowKit in
/-- internal/strconv.ParseInt(s, 10, 16), AT EVERY STRING: 'Lib.parseIntB 16' OF ITS BYTES. (LAID: no walk: one application.) -/
theorem Tryz.internal_strconv_ParseInt_10_all16 (s : ByteArray) (hmax : s.size ≤ 9223372036854775806) (w : World) :
    Calls Tryz.prog 166 #[.string s, .int .i64 10, .int .i64 16] w fun e w' => e = .returned (Lib.intTuple 240 (Lib.intSat 16 s.data.toList) (Lib.parseIntB 16 s.data.toList)) ∧ (w' = w ∨ ∃ t, w' = Lib.bytesWorld w 5 t) := Any.internal_strconv_ParseInt_10_all16 Tryz.laysC247 s hmax w
open Go.RowKit in
/-- internal/strconv.ParseInt(s, 10, 8), AT EVERY STRING: 'Lib.parseIntB 8' OF ITS BYTES. (LAID: no walk: one application.) -/
theorem Tryz.internal_strconv_ParseInt_10_all8 (s : ByteArray) (hmax : s.size ≤ 9223372036854775806) (w : World) :
    Calls Tryz.prog 166 #[.string s, .int .i64 10, .int .i64 8] w fun e w' => e = .returned (Lib.intTuple 240 (Lib.intSat 8 s.data.toList) (Lib.parseIntB 8 s.data.toList)) ∧ (w' = w ∨ ∃ t, w' = Lib.bytesWorld w 5 t) := Any.internal_strconv_ParseInt_10_all8 Tryz.laysC247 s hmax w
def Tryz.laysC174_ren : Go.Shelf.Ren := ⟨fun | 174 => 164 | 247 => 166 | 245 => 167 | 287 => 168 | 279 => 169 | 280 => 170 | 281 => 171 | 282 => 172 | 321 => 173 | 322 => 174 | 316 => 175 | 171 => 176 | 205 => 106 | 243 => 177 | 246 => 178 | 283 => 179 | 284 => 180 | 285 => 181 | 286 => 182 | 129 => 128 | 317 => 183 | 318 => 184 | 319 => 185 | 320 => 186 | 337 => 187 | 338 => 188 | n => n, fun | 9 => 9 | 3 => 3 | 2 => 2 | 75 => 80 | 85 => 237 | 4 => 4 | 167 => 240 | 5 => 5 | 53 => 132 | 175 => 241 | 46 => 75 | 168 => 243 | 37 => 83 | 0 => 0 | 210 => 248 | 21 => 21 | 127 => 128 | 145 => 198 | 143 => 196 | 171 => 251 | 173 => 253 | 212 => 257 | 51 => 192 | 20 => 20 | 213 => 258 | 232 => 260 | 233 => 261 | 80 => 93 | n => n, fun | 15 => 3 | 16 => 4 | 17 => 5 | 18 => 6 | 19 => 7 | n => n⟩
theorem Tryz.laysC174 : Go.Proofs.LaysC.n174 Tryz.prog Tryz.laysC174_ren := {
  mixed := by kernel_rfl
  f129 := Tryz.func128.trans (congrArg some (by kernel_rfl))
  f171 := Tryz.func176.trans (congrArg some (by kernel_rfl))
  f174 := Tryz.func164.trans (congrArg some (by kernel_rfl))
  f205 := Tryz.func106.trans (congrArg some (by kernel_rfl))
  f243 := Tryz.func177.trans (congrArg some (by kernel_rfl))
  f245 := Tryz.func167.trans (congrArg some (by kernel_rfl))
  f246 := Tryz.func178.trans (congrArg some (by kernel_rfl))
  f247 := Tryz.func166.trans (congrArg some (by kernel_rfl))
  f279 := Tryz.func169.trans (congrArg some (by kernel_rfl))
  f280 := Tryz.func170.trans (congrArg some (by kernel_rfl))
  f281 := Tryz.func171.trans (congrArg some (by kernel_rfl))
  f282 := Tryz.func172.trans (congrArg some (by kernel_rfl))
  f283 := Tryz.func179.trans (congrArg some (by kernel_rfl))
  f284 := Tryz.func180.trans (congrArg some (by kernel_rfl))
  f285 := Tryz.func181.trans (congrArg some (by kernel_rfl))
  f286 := Tryz.func182.trans (congrArg some (by kernel_rfl))
  f287 := Tryz.func168.trans (congrArg some (by kernel_rfl))
  f316 := Tryz.func175.trans (congrArg some (by kernel_rfl))
  f317 := Tryz.func183.trans (congrArg some (by kernel_rfl))
  f318 := Tryz.func184.trans (congrArg some (by kernel_rfl))
  f319 := Tryz.func185.trans (congrArg some (by kernel_rfl))
  f320 := Tryz.func186.trans (congrArg some (by kernel_rfl))
  f321 := Tryz.func173.trans (congrArg some (by kernel_rfl))
  f322 := Tryz.func174.trans (congrArg some (by kernel_rfl))
  f337 := Tryz.func187.trans (congrArg some (by kernel_rfl))
  f338 := Tryz.func188.trans (congrArg some (by kernel_rfl))
  t0 := Tryz.underlying0
  a0 := Tryz.isAgg0
  z0 := Tryz.sizeOf0
  v0 := Tryz.zeroValue0
  t2 := Tryz.underlying2
  a2 := Tryz.isAgg2
  z2 := Tryz.sizeOf2
  v2 := Tryz.zeroValue2
  t3 := Tryz.underlying3
  a3 := Tryz.isAgg3
  z3 := Tryz.sizeOf3
  v3 := Tryz.zeroValue3
  t4 := Tryz.underlying4
  a4 := Tryz.isAgg4
  z4 := Tryz.sizeOf4
  v4 := Tryz.zeroValue4
  t5 := Tryz.underlying5
  a5 := Tryz.isAgg5
  z5 := Tryz.sizeOf5
  v5 := Tryz.zeroValue5
  t9 := Tryz.underlying9
  a9 := Tryz.isAgg9
  z9 := Tryz.sizeOf9
  v9 := Tryz.zeroValue9
  t20 := Tryz.underlying20
  a20 := Tryz.isAgg20
  z20 := Tryz.sizeOf20
  v20 := Tryz.zeroValue20
  t21 := Tryz.underlying21
  a21 := Tryz.isAgg21
  z21 := Tryz.sizeOf21
  v21 := Tryz.zeroValue21
  t37 := Tryz.underlying83
  a37 := Tryz.isAgg83
  z37 := Tryz.sizeOf83
  v37 := Tryz.zeroValue83
  t46 := Tryz.underlying75
  a46 := Tryz.isAgg75
  z46 := Tryz.sizeOf75
  v46 := Tryz.zeroValue75
  t51 := Tryz.underlying192
  a51 := Tryz.isAgg192
  z51 := Tryz.sizeOf192
  v51 := Tryz.zeroValue192
  t53 := Tryz.underlying132
  a53 := Tryz.isAgg132
  z53 := Tryz.sizeOf132
  v53 := Tryz.zeroValue132
  t75 := Tryz.underlying80
  a75 := Tryz.isAgg80
  z75 := Tryz.sizeOf80
  v75 := Tryz.zeroValue80
  t85 := Tryz.underlying237
  a85 := Tryz.isAgg237
  z85 := Tryz.sizeOf237
  v85 := Tryz.zeroValue237
  t127 := Tryz.underlying128
  a127 := Tryz.isAgg128
  z127 := Tryz.sizeOf128
  v127 := Tryz.zeroValue128
  t143 := Tryz.underlying196
  a143 := Tryz.isAgg196
  z143 := Tryz.sizeOf196
  v143 := Tryz.zeroValue196
  t145 := Tryz.underlying198
  a145 := Tryz.isAgg198
  z145 := Tryz.sizeOf198
  v145 := Tryz.zeroValue198
  t167 := Tryz.underlying240
  a167 := Tryz.isAgg240
  z167 := Tryz.sizeOf240
  v167 := Tryz.zeroValue240
  t168 := Tryz.underlying243
  a168 := Tryz.isAgg243
  z168 := Tryz.sizeOf243
  v168 := Tryz.zeroValue243
  t171 := Tryz.underlying251
  a171 := Tryz.isAgg251
  z171 := Tryz.sizeOf251
  v171 := Tryz.zeroValue251
  t173 := Tryz.underlying253
  a173 := Tryz.isAgg253
  z173 := Tryz.sizeOf253
  v173 := Tryz.zeroValue253
  t175 := Tryz.underlying241
  a175 := Tryz.isAgg241
  z175 := Tryz.sizeOf241
  v175 := Tryz.zeroValue241
  t210 := Tryz.underlying248
  a210 := Tryz.isAgg248
  z210 := Tryz.sizeOf248
  v210 := Tryz.zeroValue248
  t212 := Tryz.underlying257
  a212 := Tryz.isAgg257
  z212 := Tryz.sizeOf257
  v212 := Tryz.zeroValue257
  t213 := Tryz.underlying258
  a213 := Tryz.isAgg258
  z213 := Tryz.sizeOf258
  t232 := Tryz.underlying260
  a232 := Tryz.isAgg260
  z232 := Tryz.sizeOf260
  v232 := Tryz.zeroValue260
  t233 := Tryz.underlying261
  a233 := Tryz.isAgg261
  z233 := Tryz.sizeOf261
  v233 := Tryz.zeroValue261
  g15 := by kernel_rfl
  g16 := by kernel_rfl
  g17 := by kernel_rfl
  g18 := by kernel_rfl
  g19 := by kernel_rfl
  t80 := Tryz.underlying93
  a80 := Tryz.isAgg93
  z80 := Tryz.sizeOf93
  v80 := Tryz.zeroValue93
  i0 := by kernel_rfl
  i2 := by kernel_rfl
  i3 := by kernel_rfl
  i4 := by kernel_rfl
  i5 := by kernel_rfl
  i9 := by kernel_rfl
  i20 := by kernel_rfl
  i21 := by kernel_rfl
  i37 := by kernel_rfl
  i46 := by kernel_rfl
  i51 := by kernel_rfl
  i53 := by kernel_rfl
  i75 := by kernel_rfl
  i80 := by kernel_rfl
  i85 := by kernel_rfl
  i127 := by kernel_rfl
  i143 := by kernel_rfl
  i145 := by kernel_rfl
  i167 := by kernel_rfl
  i168 := by kernel_rfl
  i171 := by kernel_rfl
  i173 := by kernel_rfl
  i175 := by kernel_rfl
  i210 := by kernel_rfl
  i212 := by kernel_rfl
  i232 := by kernel_rfl
  i233 := by kernel_rfl
  m15 := by kernel_rfl
  m16 := by kernel_rfl
  m17 := by kernel_rfl
  m18 := by kernel_rfl
  m19 := by kernel_rfl
  c0 := by kernel_rfl
  c2 := by kernel_rfl
  c3 := by kernel_rfl
  c4 := by kernel_rfl
  c5 := by kernel_rfl
  c9 := by kernel_rfl
  c20 := by kernel_rfl
  c21 := by kernel_rfl
  c37 := by kernel_rfl
  c46 := by kernel_rfl
  c51 := by kernel_rfl
  c53 := by kernel_rfl
  c75 := by kernel_rfl
  c80 := by kernel_rfl
  c85 := by kernel_rfl
  c127 := by kernel_rfl
  c143 := by kernel_rfl
  c145 := by kernel_rfl
  c167 := by kernel_rfl
  c168 := by kernel_rfl
  c171 := by kernel_rfl
  c173 := by kernel_rfl
  c175 := by kernel_rfl
  c210 := by kernel_rfl
  c212 := by kernel_rfl
  c213 := by kernel_rfl
  c232 := by kernel_rfl
  c233 := by kernel_rfl }
open Go.RowKit in
/-- strconv.ParseInt(s, 10, 0), AT EVERY STRING THAT SPELLS AN int64 ('Lib.parseIntB 64 s.data.toList = .ok v'): v, AND NO ERROR. (LAID: no walk: one application.) -/
theorem Tryz.strconv_ParseInt_10_at0_ok (s : ByteArray) (hmax : s.size ≤ 9223372036854775806) (v : Int) (h : Lib.parseIntB 64 s.data.toList = .ok v) (w : World) :
    Calls Tryz.prog 164 #[.string s, .int .i64 10, .int .i64 0] w fun e w' => e = .returned (.tuple #[.int .i64 v, .nilIface]) ∧ (w' = w ∨ ∃ t, w' = Lib.bytesWorld w 5 t) := Any.strconv_ParseInt_10_at0_ok Tryz.laysC174 s hmax v h w
open Go.RowKit in
/-- strconv.ParseInt(s, 10, 0), AT EVERY NUMERAL THAT NO int64 HOLDS: THE GREATEST OR THE LEAST int64, BY THE SIGN ('Lib.intSat 64'), AND AN ERROR THAT IS NOT nil: a *NumError in a new block N: {Func: "ParseInt", Num: s's bytes, Err: what the variable ErrRange holds}. Of what was there nothing has turned. (LAID: no walk: one application.) -/
theorem Tryz.strconv_ParseInt_10_at0_range (s : ByteArray) (hlim : s.size ≤ 281474976710656) (h : Lib.parseIntB 64 s.data.toList = .range) (ev : Value) (w : World) (hv : w.cell? ⟨4, 0, none⟩ = some ev) (hev : ev = .nilIface ∨ ∃ te pe, ev = .iface te pe) :
    Calls Tryz.prog 164 #[.string s, .int .i64 10, .int .i64 0] w fun e w' => ∃ N, e = .returned (.tuple #[.int .i64 (Lib.intSat 64 s.data.toList), .iface 243 (.pointer (some ⟨N, 0, none⟩))]) ∧ w.heap.size ≤ N ∧ w'.heap[N]? = some (.cells #[.string ⟨#[80, 97, 114, 115, 101, 73, 110, 116]⟩, .string s, ev] 248 (0, 0)) ∧ Below w.heap.size w w' := Any.strconv_ParseInt_10_at0_range Tryz.laysC174 s hlim h ev w hv hev
open Go.RowKit in
/-- strconv.ParseInt(s, 10, 64), AT EVERY STRING THAT SPELLS AN int64 ('Lib.parseIntB 64 s.data.toList = .ok v'): v, AND NO ERROR. (LAID: no walk: one application.) -/
theorem Tryz.strconv_ParseInt_10_at64_ok (s : ByteArray) (hmax : s.size ≤ 9223372036854775806) (v : Int) (h : Lib.parseIntB 64 s.data.toList = .ok v) (w : World) :
    Calls Tryz.prog 164 #[.string s, .int .i64 10, .int .i64 64] w fun e w' => e = .returned (.tuple #[.int .i64 v, .nilIface]) ∧ (w' = w ∨ ∃ t, w' = Lib.bytesWorld w 5 t) := Any.strconv_ParseInt_10_at64_ok Tryz.laysC174 s hmax v h w
open Go.RowKit in
/-- strconv.ParseInt(s, 10, 64), AT EVERY NUMERAL THAT NO int64 HOLDS: THE GREATEST OR THE LEAST int64, BY THE SIGN ('Lib.intSat 64'), AND AN ERROR THAT IS NOT nil: a *NumError in a new block N: {Func: "ParseInt", Num: s's bytes, Err: what the variable ErrRange holds}. Of what was there nothing has turned. (LAID: no walk: one application.) -/
theorem Tryz.strconv_ParseInt_10_at64_range (s : ByteArray) (hlim : s.size ≤ 281474976710656) (h : Lib.parseIntB 64 s.data.toList = .range) (ev : Value) (w : World) (hv : w.cell? ⟨4, 0, none⟩ = some ev) (hev : ev = .nilIface ∨ ∃ te pe, ev = .iface te pe) :
    Calls Tryz.prog 164 #[.string s, .int .i64 10, .int .i64 64] w fun e w' => ∃ N, e = .returned (.tuple #[.int .i64 (Lib.intSat 64 s.data.toList), .iface 243 (.pointer (some ⟨N, 0, none⟩))]) ∧ w.heap.size ≤ N ∧ w'.heap[N]? = some (.cells #[.string ⟨#[80, 97, 114, 115, 101, 73, 110, 116]⟩, .string s, ev] 248 (0, 0)) ∧ Below w.heap.size w w' := Any.strconv_ParseInt_10_at64_range Tryz.laysC174 s hlim h ev w hv hev
open Go.RowKit in
/-- strconv.ParseInt(s, 10, 32), AT EVERY STRING THAT SPELLS AN int32 ('Lib.parseIntB 32 s.data.toList = .ok v'): v, AND NO ERROR. (LAID: no walk: one application.) -/
theorem Tryz.strconv_ParseInt_10_at32_ok (s : ByteArray) (hmax : s.size ≤ 9223372036854775806) (v : Int) (h : Lib.parseIntB 32 s.data.toList = .ok v) (w : World) :
    Calls Tryz.prog 164 #[.string s, .int .i64 10, .int .i64 32] w fun e w' => e = .returned (.tuple #[.int .i64 v, .nilIface]) ∧ (w' = w ∨ ∃ t, w' = Lib.bytesWorld w 5 t) := Any.strconv_ParseInt_10_at32_ok Tryz.laysC174 s hmax v h w
open Go.RowKit in
/-- strconv.ParseInt(s, 10, 32), AT EVERY NUMERAL THAT NO int32 HOLDS: THE GREATEST OR THE LEAST int32, BY THE SIGN ('Lib.intSat 32'), AND AN ERROR THAT IS NOT nil: a *NumError in a new block N: {Func: "ParseInt", Num: s's bytes, Err: what the variable ErrRange holds}. Of what was there nothing has turned. (LAID: no walk: one application.) -/
theorem Tryz.strconv_ParseInt_10_at32_range (s : ByteArray) (hlim : s.size ≤ 281474976710656) (h : Lib.parseIntB 32 s.data.toList = .range) (ev : Value) (w : World) (hv : w.cell? ⟨4, 0, none⟩ = some ev) (hev : ev = .nilIface ∨ ∃ te pe, ev = .iface te pe) :
    Calls Tryz.prog 164 #[.string s, .int .i64 10, .int .i64 32] w fun e w' => ∃ N, e = .returned (.tuple #[.int .i64 (Lib.intSat 32 s.data.toList), .iface 243 (.pointer (some ⟨N, 0, none⟩))]) ∧ w.heap.size ≤ N ∧ w'.heap[N]? = some (.cells #[.string ⟨#[80, 97, 114, 115, 101, 73, 110, 116]⟩, .string s, ev] 248 (0, 0)) ∧ Below w.heap.size w w' := Any.strconv_ParseInt_10_at32_range Tryz.laysC174 s hlim h ev w hv hev
open Go.RowKit in
/-- strconv.ParseInt(s, 10, 16), AT EVERY STRING THAT SPELLS AN int16 ('Lib.parseIntB 16 s.data.toList = .ok v'): v, AND NO ERROR. (LAID: no walk: one application.) -/
theorem Tryz.strconv_ParseInt_10_at16_ok (s : ByteArray) (hmax : s.size ≤ 9223372036854775806) (v : Int) (h : Lib.parseIntB 16 s.data.toList = .ok v) (w : World) :
    Calls Tryz.prog 164 #[.string s, .int .i64 10, .int .i64 16] w fun e w' => e = .returned (.tuple #[.int .i64 v, .nilIface]) ∧ (w' = w ∨ ∃ t, w' = Lib.bytesWorld w 5 t) := Any.strconv_ParseInt_10_at16_ok Tryz.laysC174 s hmax v h w
open Go.RowKit in
/-- strconv.ParseInt(s, 10, 16), AT EVERY NUMERAL THAT NO int16 HOLDS: THE GREATEST OR THE LEAST int16, BY THE SIGN ('Lib.intSat 16'), AND AN ERROR THAT IS NOT nil: a *NumError in a new block N: {Func: "ParseInt", Num: s's bytes, Err: what the variable ErrRange holds}. Of what was there nothing has turned. (LAID: no walk: one application.) -/
theorem Tryz.strconv_ParseInt_10_at16_range (s : ByteArray) (hlim : s.size ≤ 281474976710656) (h : Lib.parseIntB 16 s.data.toList = .range) (ev : Value) (w : World) (hv : w.cell? ⟨4, 0, none⟩ = some ev) (hev : ev = .nilIface ∨ ∃ te pe, ev = .iface te pe) :
    Calls Tryz.prog 164 #[.string s, .int .i64 10, .int .i64 16] w fun e w' => ∃ N, e = .returned (.tuple #[.int .i64 (Lib.intSat 16 s.data.toList), .iface 243 (.pointer (some ⟨N, 0, none⟩))]) ∧ w.heap.size ≤ N ∧ w'.heap[N]? = some (.cells #[.string ⟨#[80, 97, 114, 115, 101, 73, 110, 116]⟩, .string s, ev] 248 (0, 0)) ∧ Below w.heap.size w w' := Any.strconv_ParseInt_10_at16_range Tryz.laysC174 s hlim h ev w hv hev
open Go.RowKit in
/-- strconv.ParseInt(s, 10, 8), AT EVERY STRING THAT SPELLS AN int8 ('Lib.parseIntB 8 s.data.toList = .ok v'): v, AND NO ERROR. (LAID: no walk: one application.) -/
theorem Tryz.strconv_ParseInt_10_at8_ok (s : ByteArray) (hmax : s.size ≤ 9223372036854775806) (v : Int) (h : Lib.parseIntB 8 s.data.toList = .ok v) (w : World) :
    Calls Tryz.prog 164 #[.string s, .int .i64 10, .int .i64 8] w fun e w' => e = .returned (.tuple #[.int .i64 v, .nilIface]) ∧ (w' = w ∨ ∃ t, w' = Lib.bytesWorld w 5 t) := Any.strconv_ParseInt_10_at8_ok Tryz.laysC174 s hmax v h w
open Go.RowKit in
/-- strconv.ParseInt(s, 10, 8), AT EVERY NUMERAL THAT NO int8 HOLDS: THE GREATEST OR THE LEAST int8, BY THE SIGN ('Lib.intSat 8'), AND AN ERROR THAT IS NOT nil: a *NumError in a new block N: {Func: "ParseInt", Num: s's bytes, Err: what the variable ErrRange holds}. Of what was there nothing has turned. (LAID: no walk: one application.) -/
theorem Tryz.strconv_ParseInt_10_at8_range (s : ByteArray) (hlim : s.size ≤ 281474976710656) (h : Lib.parseIntB 8 s.data.toList = .range) (ev : Value) (w : World) (hv : w.cell? ⟨4, 0, none⟩ = some ev) (hev : ev = .nilIface ∨ ∃ te pe, ev = .iface te pe) :
    Calls Tryz.prog 164 #[.string s, .int .i64 10, .int .i64 8] w fun e w' => ∃ N, e = .returned (.tuple #[.int .i64 (Lib.intSat 8 s.data.toList), .iface 243 (.pointer (some ⟨N, 0, none⟩))]) ∧ w.heap.size ≤ N ∧ w'.heap[N]? = some (.cells #[.string ⟨#[80, 97, 114, 115, 101, 73, 110, 116]⟩, .string s, ev] 248 (0, 0)) ∧ Below w.heap.size w w' := Any.strconv_ParseInt_10_at8_range Tryz.laysC174 s hlim h ev w hv hev
def Tryz.lays190_ren : Go.Shelf.Ren := ⟨fun | 190 => 92 | 125 => 109 | 258 => 108 | 128 => 127 | 129 => 128 | 302 => 118 | 303 => 119 | 304 => 120 | 305 => 121 | 306 => 122 | 307 => 123 | 308 => 124 | 309 => 125 | 310 => 126 | 333 => 134 | 329 => 135 | 330 => 136 | 334 => 137 | 335 => 138 | 336 => 139 | 344 => 150 | n => n, fun | 31 => 32 | 9 => 9 | 3 => 3 | 46 => 75 | 0 => 0 | 51 => 192 | 53 => 132 | 4 => 4 | 183 => 201 | 182 => 200 | 131 => 205 | 5 => 5 | 218 => 221 | 222 => 225 | 228 => 231 | 229 => 232 | n => n, fun | n => n⟩
theorem Tryz.lays190 : Go.Proofs.Lays.n190 Tryz.prog Tryz.lays190_ren := {
  mixed := by kernel_rfl
  f125 := Tryz.func109.trans (congrArg some (by kernel_rfl))
  f128 := Tryz.func127.trans (congrArg some (by kernel_rfl))
  f129 := Tryz.func128.trans (congrArg some (by kernel_rfl))
  f190 := Tryz.func92.trans (congrArg some (by kernel_rfl))
  f258 := Tryz.func108.trans (congrArg some (by kernel_rfl))
  f302 := Tryz.func118.trans (congrArg some (by kernel_rfl))
  f303 := Tryz.func119.trans (congrArg some (by kernel_rfl))
  f304 := Tryz.func120.trans (congrArg some (by kernel_rfl))
  f305 := Tryz.func121.trans (congrArg some (by kernel_rfl))
  f306 := Tryz.func122.trans (congrArg some (by kernel_rfl))
  f307 := Tryz.func123.trans (congrArg some (by kernel_rfl))
  f308 := Tryz.func124.trans (congrArg some (by kernel_rfl))
  f309 := Tryz.func125.trans (congrArg some (by kernel_rfl))
  f310 := Tryz.func126.trans (congrArg some (by kernel_rfl))
  f329 := Tryz.func135.trans (congrArg some (by kernel_rfl))
  f330 := Tryz.func136.trans (congrArg some (by kernel_rfl))
  f333 := Tryz.func134.trans (congrArg some (by kernel_rfl))
  f334 := Tryz.func137.trans (congrArg some (by kernel_rfl))
  f335 := Tryz.func138.trans (congrArg some (by kernel_rfl))
  f336 := Tryz.func139.trans (congrArg some (by kernel_rfl))
  f344 := Tryz.func150.trans (congrArg some (by kernel_rfl))
  t0 := Tryz.underlying0
  a0 := Tryz.isAgg0
  z0 := Tryz.sizeOf0
  v0 := Tryz.zeroValue0
  t3 := Tryz.underlying3
  a3 := Tryz.isAgg3
  z3 := Tryz.sizeOf3
  v3 := Tryz.zeroValue3
  t4 := Tryz.underlying4
  a4 := Tryz.isAgg4
  z4 := Tryz.sizeOf4
  v4 := Tryz.zeroValue4
  t5 := Tryz.underlying5
  a5 := Tryz.isAgg5
  z5 := Tryz.sizeOf5
  v5 := Tryz.zeroValue5
  t9 := Tryz.underlying9
  a9 := Tryz.isAgg9
  z9 := Tryz.sizeOf9
  v9 := Tryz.zeroValue9
  t31 := Tryz.underlying32
  a31 := Tryz.isAgg32
  z31 := Tryz.sizeOf32
  v31 := Tryz.zeroValue32
  t46 := Tryz.underlying75
  a46 := Tryz.isAgg75
  z46 := Tryz.sizeOf75
  v46 := Tryz.zeroValue75
  t51 := Tryz.underlying192
  a51 := Tryz.isAgg192
  z51 := Tryz.sizeOf192
  v51 := Tryz.zeroValue192
  t53 := Tryz.underlying132
  a53 := Tryz.isAgg132
  z53 := Tryz.sizeOf132
  v53 := Tryz.zeroValue132
  t131 := Tryz.underlying205
  a131 := Tryz.isAgg205
  z131 := Tryz.sizeOf205
  v131 := Tryz.zeroValue205
  t182 := Tryz.underlying200
  a182 := Tryz.isAgg200
  z182 := Tryz.sizeOf200
  v182 := Tryz.zeroValue200
  t183 := Tryz.underlying201
  a183 := Tryz.isAgg201
  z183 := Tryz.sizeOf201
  v183 := Tryz.zeroValue201
  t218 := Tryz.underlying221
  a218 := Tryz.isAgg221
  z218 := Tryz.sizeOf221
  v218 := Tryz.zeroValue221
  t222 := Tryz.underlying225
  a222 := Tryz.isAgg225
  z222 := Tryz.sizeOf225
  v222 := Tryz.zeroValue225
  t228 := Tryz.underlying231
  a228 := Tryz.isAgg231
  z228 := Tryz.sizeOf231
  v228 := Tryz.zeroValue231
  t229 := Tryz.underlying232
  a229 := Tryz.isAgg232
  z229 := Tryz.sizeOf232
  v229 := Tryz.zeroValue232 }
open Go.Sort Go.RowKit in
theorem Tryz.slices_Sort_string (blk off cap : Nat) (ss : List (List UInt8)) (w : World) (hH : Holds encStr w blk off ss.toArray) (hblk : blk < w.heap.size) (hsz : ss.length < 4611686018427387904) :
    Calls Tryz.prog 92 #[.slice (some ⟨blk, off, none⟩) ss.length cap] w fun e w' =>
      e = .returned (.tuple #[]) ∧ ∃ n os, w' = grow (putRow encStr (Sort.ahead w n) blk off (ss.mergeSort fun x y => decide (x ≤ y)).toArray) os := Any.slices_Sort_string Tryz.lays190 blk off cap ss w hH hblk hsz
def Tryz.lays192_ren : Go.Shelf.Ren := ⟨fun | 192 => 75 | 190 => 92 | 125 => 109 | 258 => 108 | 128 => 127 | 129 => 128 | 302 => 118 | 303 => 119 | 304 => 120 | 305 => 121 | 306 => 122 | 307 => 123 | 308 => 124 | 309 => 125 | 310 => 126 | 333 => 134 | 329 => 135 | 330 => 136 | 334 => 137 | 335 => 138 | 336 => 139 | 344 => 150 | n => n, fun | 31 => 32 | 0 => 0 | 9 => 9 | 3 => 3 | 46 => 75 | 51 => 192 | 53 => 132 | 4 => 4 | 183 => 201 | 182 => 200 | 131 => 205 | 5 => 5 | 218 => 221 | 222 => 225 | 228 => 231 | 229 => 232 | n => n, fun | n => n⟩
theorem Tryz.lays192 : Go.Proofs.Lays.n192 Tryz.prog Tryz.lays192_ren := {
  mixed := by kernel_rfl
  f125 := Tryz.func109.trans (congrArg some (by kernel_rfl))
  f128 := Tryz.func127.trans (congrArg some (by kernel_rfl))
  f129 := Tryz.func128.trans (congrArg some (by kernel_rfl))
  f190 := Tryz.func92.trans (congrArg some (by kernel_rfl))
  f192 := Tryz.func75.trans (congrArg some (by kernel_rfl))
  f258 := Tryz.func108.trans (congrArg some (by kernel_rfl))
  f302 := Tryz.func118.trans (congrArg some (by kernel_rfl))
  f303 := Tryz.func119.trans (congrArg some (by kernel_rfl))
  f304 := Tryz.func120.trans (congrArg some (by kernel_rfl))
  f305 := Tryz.func121.trans (congrArg some (by kernel_rfl))
  f306 := Tryz.func122.trans (congrArg some (by kernel_rfl))
  f307 := Tryz.func123.trans (congrArg some (by kernel_rfl))
  f308 := Tryz.func124.trans (congrArg some (by kernel_rfl))
  f309 := Tryz.func125.trans (congrArg some (by kernel_rfl))
  f310 := Tryz.func126.trans (congrArg some (by kernel_rfl))
  f329 := Tryz.func135.trans (congrArg some (by kernel_rfl))
  f330 := Tryz.func136.trans (congrArg some (by kernel_rfl))
  f333 := Tryz.func134.trans (congrArg some (by kernel_rfl))
  f334 := Tryz.func137.trans (congrArg some (by kernel_rfl))
  f335 := Tryz.func138.trans (congrArg some (by kernel_rfl))
  f336 := Tryz.func139.trans (congrArg some (by kernel_rfl))
  f344 := Tryz.func150.trans (congrArg some (by kernel_rfl))
  t0 := Tryz.underlying0
  a0 := Tryz.isAgg0
  z0 := Tryz.sizeOf0
  v0 := Tryz.zeroValue0
  t3 := Tryz.underlying3
  a3 := Tryz.isAgg3
  z3 := Tryz.sizeOf3
  v3 := Tryz.zeroValue3
  t4 := Tryz.underlying4
  a4 := Tryz.isAgg4
  z4 := Tryz.sizeOf4
  v4 := Tryz.zeroValue4
  t5 := Tryz.underlying5
  a5 := Tryz.isAgg5
  z5 := Tryz.sizeOf5
  v5 := Tryz.zeroValue5
  t9 := Tryz.underlying9
  a9 := Tryz.isAgg9
  z9 := Tryz.sizeOf9
  v9 := Tryz.zeroValue9
  t31 := Tryz.underlying32
  a31 := Tryz.isAgg32
  z31 := Tryz.sizeOf32
  v31 := Tryz.zeroValue32
  t46 := Tryz.underlying75
  a46 := Tryz.isAgg75
  z46 := Tryz.sizeOf75
  v46 := Tryz.zeroValue75
  t51 := Tryz.underlying192
  a51 := Tryz.isAgg192
  z51 := Tryz.sizeOf192
  v51 := Tryz.zeroValue192
  t53 := Tryz.underlying132
  a53 := Tryz.isAgg132
  z53 := Tryz.sizeOf132
  v53 := Tryz.zeroValue132
  t131 := Tryz.underlying205
  a131 := Tryz.isAgg205
  z131 := Tryz.sizeOf205
  v131 := Tryz.zeroValue205
  t182 := Tryz.underlying200
  a182 := Tryz.isAgg200
  z182 := Tryz.sizeOf200
  v182 := Tryz.zeroValue200
  t183 := Tryz.underlying201
  a183 := Tryz.isAgg201
  z183 := Tryz.sizeOf201
  v183 := Tryz.zeroValue201
  t218 := Tryz.underlying221
  a218 := Tryz.isAgg221
  z218 := Tryz.sizeOf221
  v218 := Tryz.zeroValue221
  t222 := Tryz.underlying225
  a222 := Tryz.isAgg225
  z222 := Tryz.sizeOf225
  v222 := Tryz.zeroValue225
  t228 := Tryz.underlying231
  a228 := Tryz.isAgg231
  z228 := Tryz.sizeOf231
  v228 := Tryz.zeroValue231
  t229 := Tryz.underlying232
  a229 := Tryz.isAgg232
  z229 := Tryz.sizeOf232
  v229 := Tryz.zeroValue232 }
open Go.Sort Go.RowKit in
theorem Tryz.sort_Strings (blk off cap : Nat) (ss : List (List UInt8)) (w : World) (hH : Holds encStr w blk off ss.toArray) (hblk : blk < w.heap.size) (hsz : ss.length < 4611686018427387904) :
    Calls Tryz.prog 75 #[.slice (some ⟨blk, off, none⟩) ss.length cap] w fun e w' =>
      e = .returned (.tuple #[]) ∧ ∃ n os, w' = grow (putRow encStr (Sort.ahead w n) blk off (ss.mergeSort fun x y => decide (x ≤ y)).toArray) os := Any.sort_Strings Tryz.lays192 blk off cap ss w hH hblk hsz
def Tryz.lays206_ren : Go.Shelf.Ren := ⟨fun | 206 => 93 | n => n, fun | 9 => 9 | 4 => 4 | 3 => 3 | n => n, fun | n => n⟩
theorem Tryz.lays206 : Go.Proofs.Lays.n206 Tryz.prog Tryz.lays206_ren := {
  mixed := by kernel_rfl
  f206 := Tryz.func93.trans (congrArg some (by kernel_rfl))
  t3 := Tryz.underlying3
  a3 := Tryz.isAgg3
  z3 := Tryz.sizeOf3
  v3 := Tryz.zeroValue3
  t4 := Tryz.underlying4
  a4 := Tryz.isAgg4
  z4 := Tryz.sizeOf4
  v4 := Tryz.zeroValue4
  t9 := Tryz.underlying9
  a9 := Tryz.isAgg9
  z9 := Tryz.sizeOf9
  v9 := Tryz.zeroValue9 }
open Go.RowKit Go.Lib in
/-- internal/stringslite.HasPrefix (what strings.HasPrefix calls). (LAID: no walk: one application.) -/
theorem Tryz.stringslite_HasPrefix (s p : ByteArray) (w : World) :
    Calls Tryz.prog 93 #[.string s, .string p] w fun e w' => e = .returned (.bool (Lib.hasPrefix s.data.toList p.data.toList)) ∧ w' = w := Any.stringslite_HasPrefix Tryz.lays206 s p w
def Tryz.lays99_ren : Go.Shelf.Ren := ⟨fun | 99 => 76 | 206 => 93 | n => n, fun | 9 => 9 | 4 => 4 | 3 => 3 | n => n, fun | n => n⟩
theorem Tryz.lays99 : Go.Proofs.Lays.n99 Tryz.prog Tryz.lays99_ren := {
  mixed := by kernel_rfl
  f99 := Tryz.func76.trans (congrArg some (by kernel_rfl))
  f206 := Tryz.func93.trans (congrArg some (by kernel_rfl))
  t3 := Tryz.underlying3
  a3 := Tryz.isAgg3
  z3 := Tryz.sizeOf3
  v3 := Tryz.zeroValue3
  t4 := Tryz.underlying4
  a4 := Tryz.isAgg4
  z4 := Tryz.sizeOf4
  v4 := Tryz.zeroValue4
  t9 := Tryz.underlying9
  a9 := Tryz.isAgg9
  z9 := Tryz.sizeOf9
  v9 := Tryz.zeroValue9 }
open Go.RowKit Go.Lib in
/-- strings.HasPrefix: "HasPrefix reports whether the string s begins with prefix.": IT RETURNS 'Lib.hasPrefix s prefix'; the world is as it was. (LAID: no walk: one application.) -/
theorem Tryz.strings_HasPrefix (s p : ByteArray) (w : World) :
    Calls Tryz.prog 76 #[.string s, .string p] w fun e w' => e = .returned (.bool (Lib.hasPrefix s.data.toList p.data.toList)) ∧ w' = w := Any.strings_HasPrefix Tryz.lays99 s p w
def Tryz.lays199_ren : Go.Shelf.Ren := ⟨fun | 199 => 103 | 261 => 116 | 311 => 131 | 312 => 132 | n => n, fun | 21 => 21 | 4 => 4 | 51 => 192 | 141 => 194 | 0 => 0 | 196 => 212 | 193 => 209 | 3 => 3 | 198 => 215 | 49 => 213 | 194 => 210 | 201 => 218 | 226 => 229 | 46 => 75 | 227 => 230 | n => n, fun | 6 => 2 | n => n⟩
theorem Tryz.lays199 : Go.Proofs.Lays.n199 Tryz.prog Tryz.lays199_ren := {
  mixed := by kernel_rfl
  f199 := Tryz.func103.trans (congrArg some (by kernel_rfl))
  f261 := Tryz.func116.trans (congrArg some (by kernel_rfl))
  f311 := Tryz.func131.trans (congrArg some (by kernel_rfl))
  f312 := Tryz.func132.trans (congrArg some (by kernel_rfl))
  t0 := Tryz.underlying0
  a0 := Tryz.isAgg0
  z0 := Tryz.sizeOf0
  v0 := Tryz.zeroValue0
  t3 := Tryz.underlying3
  a3 := Tryz.isAgg3
  z3 := Tryz.sizeOf3
  v3 := Tryz.zeroValue3
  t4 := Tryz.underlying4
  a4 := Tryz.isAgg4
  z4 := Tryz.sizeOf4
  v4 := Tryz.zeroValue4
  t21 := Tryz.underlying21
  a21 := Tryz.isAgg21
  z21 := Tryz.sizeOf21
  v21 := Tryz.zeroValue21
  t46 := Tryz.underlying75
  a46 := Tryz.isAgg75
  z46 := Tryz.sizeOf75
  v46 := Tryz.zeroValue75
  t49 := Tryz.underlying213
  a49 := Tryz.isAgg213
  z49 := Tryz.sizeOf213
  v49 := Tryz.zeroValue213
  t51 := Tryz.underlying192
  a51 := Tryz.isAgg192
  z51 := Tryz.sizeOf192
  v51 := Tryz.zeroValue192
  t141 := Tryz.underlying194
  a141 := Tryz.isAgg194
  z141 := Tryz.sizeOf194
  v141 := Tryz.zeroValue194
  t193 := Tryz.underlying209
  a193 := Tryz.isAgg209
  z193 := Tryz.sizeOf209
  v193 := Tryz.zeroValue209
  t194 := Tryz.underlying210
  a194 := Tryz.isAgg210
  z194 := Tryz.sizeOf210
  v194 := Tryz.zeroValue210
  t196 := Tryz.underlying212
  a196 := Tryz.isAgg212
  z196 := Tryz.sizeOf212
  v196 := Tryz.zeroValue212
  t198 := Tryz.underlying215
  a198 := Tryz.isAgg215
  z198 := Tryz.sizeOf215
  v198 := Tryz.zeroValue215
  t201 := Tryz.underlying218
  a201 := Tryz.isAgg218
  z201 := Tryz.sizeOf218
  v201 := Tryz.zeroValue218
  t226 := Tryz.underlying229
  a226 := Tryz.isAgg229
  z226 := Tryz.sizeOf229
  v226 := Tryz.zeroValue229
  t227 := Tryz.underlying230
  a227 := Tryz.isAgg230
  z227 := Tryz.sizeOf230
  v227 := Tryz.zeroValue230
  g6 := by kernel_rfl }
open Go.RowKit Go.Lib in
theorem Tryz.unicode_IsSpace (r : Int) (w : World) (h0 : 0 ≤ r) (h : r ≤ 255) :
    Calls Tryz.prog 103 #[.int .i32 r] w fun e w' => e = .returned (.bool (Lib.isSpaceL r)) ∧ w' = w := Any.unicode_IsSpace Tryz.lays199 r w h0 h
def Tryz.lays197_ren : Go.Shelf.Ren := ⟨fun | 197 => 102 | 260 => 115 | n => n, fun | 9 => 9 | 21 => 21 | 3 => 3 | 4 => 4 | 5 => 5 | 105 => 179 | 119 => 105 | 0 => 0 | 46 => 75 | 139 => 108 | 138 => 107 | n => n, fun | 3 => 0 | 4 => 1 | n => n⟩
theorem Tryz.lays197 : Go.Proofs.Lays.n197 Tryz.prog Tryz.lays197_ren := {
  mixed := by kernel_rfl
  f197 := Tryz.func102.trans (congrArg some (by kernel_rfl))
  f260 := Tryz.func115.trans (congrArg some (by kernel_rfl))
  t0 := Tryz.underlying0
  a0 := Tryz.isAgg0
  z0 := Tryz.sizeOf0
  v0 := Tryz.zeroValue0
  t3 := Tryz.underlying3
  a3 := Tryz.isAgg3
  z3 := Tryz.sizeOf3
  v3 := Tryz.zeroValue3
  t4 := Tryz.underlying4
  a4 := Tryz.isAgg4
  z4 := Tryz.sizeOf4
  v4 := Tryz.zeroValue4
  t5 := Tryz.underlying5
  a5 := Tryz.isAgg5
  z5 := Tryz.sizeOf5
  v5 := Tryz.zeroValue5
  t9 := Tryz.underlying9
  a9 := Tryz.isAgg9
  z9 := Tryz.sizeOf9
  v9 := Tryz.zeroValue9
  t21 := Tryz.underlying21
  a21 := Tryz.isAgg21
  z21 := Tryz.sizeOf21
  v21 := Tryz.zeroValue21
  t46 := Tryz.underlying75
  a46 := Tryz.isAgg75
  z46 := Tryz.sizeOf75
  v46 := Tryz.zeroValue75
  t105 := Tryz.underlying179
  a105 := Tryz.isAgg179
  z105 := Tryz.sizeOf179
  v105 := Tryz.zeroValue179
  t119 := Tryz.underlying105
  a119 := Tryz.isAgg105
  z119 := Tryz.sizeOf105
  t138 := Tryz.underlying107
  a138 := Tryz.isAgg107
  z138 := Tryz.sizeOf107
  v138 := Tryz.zeroValue107
  t139 := Tryz.underlying108
  a139 := Tryz.isAgg108
  z139 := Tryz.sizeOf108
  v139 := Tryz.zeroValue108
  g3 := by kernel_rfl
  g4 := by kernel_rfl }
open Go.RowKit Go.Lib in
/-- unicode/utf8.DecodeRuneInString: "DecodeRuneInString is like DecodeRune but its input is a string.": ("DecodeRune unpacks the first UTF-8 encoding in p and returns the rune and its width in bytes."): WHERE s BEGINS WITH AN ASCII BYTE x: (x, 1). (LAID: no walk: one application.) -/
theorem Tryz.utf8_DecodeRuneInString_ascii (s : ByteArray) (x : UInt8) (w : World) (h0 : s.data.toList[0]? = some x) (hx : x.toNat < 128) :
    Calls Tryz.prog 102 #[.string s] w fun e w' => e = .returned (.tuple #[.int .i32 x.toNat, .int .i64 1]) ∧ w' = w := Any.utf8_DecodeRuneInString_ascii Tryz.lays197 s x w h0 hx
def Tryz.lays260_ren : Go.Shelf.Ren := ⟨fun | 260 => 115 | n => n, fun | 9 => 9 | 21 => 21 | 3 => 3 | 4 => 4 | 5 => 5 | 119 => 105 | 0 => 0 | 46 => 75 | 139 => 108 | 138 => 107 | n => n, fun | 3 => 0 | 4 => 1 | n => n⟩
theorem Tryz.lays260 : Go.Proofs.Lays.n260 Tryz.prog Tryz.lays260_ren := {
  mixed := by kernel_rfl
  f260 := Tryz.func115.trans (congrArg some (by kernel_rfl))
  t0 := Tryz.underlying0
  a0 := Tryz.isAgg0
  z0 := Tryz.sizeOf0
  v0 := Tryz.zeroValue0
  t3 := Tryz.underlying3
  a3 := Tryz.isAgg3
  z3 := Tryz.sizeOf3
  v3 := Tryz.zeroValue3
  t4 := Tryz.underlying4
  a4 := Tryz.isAgg4
  z4 := Tryz.sizeOf4
  v4 := Tryz.zeroValue4
  t5 := Tryz.underlying5
  a5 := Tryz.isAgg5
  z5 := Tryz.sizeOf5
  v5 := Tryz.zeroValue5
  t9 := Tryz.underlying9
  a9 := Tryz.isAgg9
  z9 := Tryz.sizeOf9
  v9 := Tryz.zeroValue9
  t21 := Tryz.underlying21
  a21 := Tryz.isAgg21
  z21 := Tryz.sizeOf21
  v21 := Tryz.zeroValue21
  t46 := Tryz.underlying75
  a46 := Tryz.isAgg75
  z46 := Tryz.sizeOf75
  v46 := Tryz.zeroValue75
  t119 := Tryz.underlying105
  a119 := Tryz.isAgg105
  z119 := Tryz.sizeOf105
  t138 := Tryz.underlying107
  a138 := Tryz.isAgg107
  z138 := Tryz.sizeOf107
  v138 := Tryz.zeroValue107
  t139 := Tryz.underlying108
  a139 := Tryz.isAgg108
  z139 := Tryz.sizeOf108
  v139 := Tryz.zeroValue108
  g3 := by kernel_rfl
  g4 := by kernel_rfl }
open Go.RowKit Go.Lib in
theorem Tryz.utf8_decodeRuneInStringSlow (s : ByteArray) (w : World) (hT : Lib.Utf8Tabs 0 1 w) :
    Calls Tryz.prog 115 #[.string s] w fun e w' => e = .returned (.tuple #[.int .i32 (Lib.decodeGo s).1, .int .i64 (Lib.decodeGo s).2]) ∧ Below w.heap.size w w' := Any.utf8_decodeRuneInStringSlow Tryz.lays260 s w hT
open Go.RowKit Go.Lib in
/-- **unicode/utf8.DecodeRuneInString AT EVERY STRING.** (LAID: no walk: one application.) -/
theorem Tryz.utf8_DecodeRuneInString (s : ByteArray) (w : World) (hT : Lib.Utf8Tabs 0 1 w) :
    Calls Tryz.prog 102 #[.string s] w fun e w' => e = .returned (.tuple #[.int .i32 (Lib.decodeGo s).1, .int .i64 (Lib.decodeGo s).2]) ∧ Below w.heap.size w w' := Any.utf8_DecodeRuneInString Tryz.lays197 s w hT
def Tryz.lays311_ren : Go.Shelf.Ren := ⟨fun | 311 => 131 | n => n, fun | 193 => 209 | 49 => 213 | 4 => 4 | 3 => 3 | 0 => 0 | 226 => 229 | 198 => 215 | 46 => 75 | n => n, fun | n => n⟩
theorem Tryz.lays311 : Go.Proofs.Lays.n311 Tryz.prog Tryz.lays311_ren := {
  mixed := by kernel_rfl
  f311 := Tryz.func131.trans (congrArg some (by kernel_rfl))
  t0 := Tryz.underlying0
  a0 := Tryz.isAgg0
  z0 := Tryz.sizeOf0
  v0 := Tryz.zeroValue0
  t3 := Tryz.underlying3
  a3 := Tryz.isAgg3
  z3 := Tryz.sizeOf3
  v3 := Tryz.zeroValue3
  t4 := Tryz.underlying4
  a4 := Tryz.isAgg4
  z4 := Tryz.sizeOf4
  v4 := Tryz.zeroValue4
  t46 := Tryz.underlying75
  a46 := Tryz.isAgg75
  z46 := Tryz.sizeOf75
  v46 := Tryz.zeroValue75
  t49 := Tryz.underlying213
  a49 := Tryz.isAgg213
  z49 := Tryz.sizeOf213
  v49 := Tryz.zeroValue213
  t193 := Tryz.underlying209
  a193 := Tryz.isAgg209
  z193 := Tryz.sizeOf209
  v193 := Tryz.zeroValue209
  t198 := Tryz.underlying215
  a198 := Tryz.isAgg215
  z198 := Tryz.sizeOf215
  v198 := Tryz.zeroValue215
  t226 := Tryz.underlying229
  a226 := Tryz.isAgg229
  z226 := Tryz.sizeOf229
  v226 := Tryz.zeroValue229 }
open Go.RowKit Go.Lib in
theorem Tryz.unicode_is16_white (R oR : Nat) (z : Nat) (w : World) (hz : z < 65536) (hz0 : 255 < z) (c6 : w.cell? ⟨R, oR + 6, none⟩ = some (.int .u16 160)) (c7 : w.cell? ⟨R, oR + 7, none⟩ = some (.int .u16 5760)) (c8 : w.cell? ⟨R, oR + 8, none⟩ = some (.int .u16 5600)) (c9 : w.cell? ⟨R, oR + 9, none⟩ = some (.int .u16 8192)) (c10 : w.cell? ⟨R, oR + 10, none⟩ = some (.int .u16 8202)) (c11 : w.cell? ⟨R, oR + 11, none⟩ = some (.int .u16 1)) (c12 : w.cell? ⟨R, oR + 12, none⟩ = some (.int .u16 8232)) (c13 : w.cell? ⟨R, oR + 13, none⟩ = some (.int .u16 8233)) (c14 : w.cell? ⟨R, oR + 14, none⟩ = some (.int .u16 1)) (c15 : w.cell? ⟨R, oR + 15, none⟩ = some (.int .u16 8239)) (c16 : w.cell? ⟨R, oR + 16, none⟩ = some (.int .u16 8287)) (c17 : w.cell? ⟨R, oR + 17, none⟩ = some (.int .u16 48)) (c18 : w.cell? ⟨R, oR + 18, none⟩ = some (.int .u16 12288)) (c19 : w.cell? ⟨R, oR + 19, none⟩ = some (.int .u16 12288)) (c20 : w.cell? ⟨R, oR + 20, none⟩ = some (.int .u16 1)) :
    Calls Tryz.prog 131 #[.slice (some ⟨R, oR + 6, none⟩) 5 5, .int .u16 z] w fun e w' => e = .returned (.bool (Lib.isSpaceR z)) ∧ Below w.heap.size w w' := Any.unicode_is16_white Tryz.lays311 R oR z w hz hz0 c6 c7 c8 c9 c10 c11 c12 c13 c14 c15 c16 c17 c18 c19 c20
def Tryz.lays261_ren : Go.Shelf.Ren := ⟨fun | 261 => 116 | 311 => 131 | 312 => 132 | n => n, fun | 141 => 194 | 21 => 21 | 4 => 4 | 0 => 0 | 196 => 212 | 193 => 209 | 3 => 3 | 51 => 192 | 198 => 215 | 49 => 213 | 194 => 210 | 201 => 218 | 226 => 229 | 46 => 75 | 227 => 230 | n => n, fun | n => n⟩
theorem Tryz.lays261 : Go.Proofs.Lays.n261 Tryz.prog Tryz.lays261_ren := {
  mixed := by kernel_rfl
  f261 := Tryz.func116.trans (congrArg some (by kernel_rfl))
  f311 := Tryz.func131.trans (congrArg some (by kernel_rfl))
  f312 := Tryz.func132.trans (congrArg some (by kernel_rfl))
  t0 := Tryz.underlying0
  a0 := Tryz.isAgg0
  z0 := Tryz.sizeOf0
  v0 := Tryz.zeroValue0
  t3 := Tryz.underlying3
  a3 := Tryz.isAgg3
  z3 := Tryz.sizeOf3
  v3 := Tryz.zeroValue3
  t4 := Tryz.underlying4
  a4 := Tryz.isAgg4
  z4 := Tryz.sizeOf4
  v4 := Tryz.zeroValue4
  t21 := Tryz.underlying21
  a21 := Tryz.isAgg21
  z21 := Tryz.sizeOf21
  v21 := Tryz.zeroValue21
  t46 := Tryz.underlying75
  a46 := Tryz.isAgg75
  z46 := Tryz.sizeOf75
  v46 := Tryz.zeroValue75
  t49 := Tryz.underlying213
  a49 := Tryz.isAgg213
  z49 := Tryz.sizeOf213
  v49 := Tryz.zeroValue213
  t51 := Tryz.underlying192
  a51 := Tryz.isAgg192
  z51 := Tryz.sizeOf192
  v51 := Tryz.zeroValue192
  t141 := Tryz.underlying194
  a141 := Tryz.isAgg194
  z141 := Tryz.sizeOf194
  v141 := Tryz.zeroValue194
  t193 := Tryz.underlying209
  a193 := Tryz.isAgg209
  z193 := Tryz.sizeOf209
  v193 := Tryz.zeroValue209
  t194 := Tryz.underlying210
  a194 := Tryz.isAgg210
  z194 := Tryz.sizeOf210
  v194 := Tryz.zeroValue210
  t196 := Tryz.underlying212
  a196 := Tryz.isAgg212
  z196 := Tryz.sizeOf212
  v196 := Tryz.zeroValue212
  t198 := Tryz.underlying215
  a198 := Tryz.isAgg215
  z198 := Tryz.sizeOf215
  v198 := Tryz.zeroValue215
  t201 := Tryz.underlying218
  a201 := Tryz.isAgg218
  z201 := Tryz.sizeOf218
  v201 := Tryz.zeroValue218
  t226 := Tryz.underlying229
  a226 := Tryz.isAgg229
  z226 := Tryz.sizeOf229
  v226 := Tryz.zeroValue229
  t227 := Tryz.underlying230
  a227 := Tryz.isAgg230
  z227 := Tryz.sizeOf230
  v227 := Tryz.zeroValue230 }
open Go.RowKit Go.Lib in
/-- unicode.isExcludingLatin(White_Space, r), r beyond U+00FF or negative. (LAID: no walk: one application.) -/
theorem Tryz.unicode_isExcludingLatin_white (T oT R oR : Nat) (r : Int) (w : World) (hlo : -2147483648 ≤ r) (hhi : r ≤ 2147483647) (hr : r < 0 ∨ 255 < r) (h2 : w.cell? ⟨T, oT, none⟩ = some (.slice (some ⟨R, oR, none⟩) 7 7)) (h3 : w.cell? ⟨T, oT + 1, none⟩ = some (.slice none 0 0)) (h4 : w.cell? ⟨T, oT + 2, none⟩ = some (.int .i64 2)) (h5 : ∀ i, i < 21 → w.cell? ⟨R, oR + i, none⟩ = some (.int .u16 (whiteT.getD i 0))) :
    Calls Tryz.prog 116 #[.pointer (some ⟨T, oT, none⟩), .int .i32 r] w fun e w' => e = .returned (.bool (Lib.isSpaceZ r)) ∧ Below w.heap.size w w' := Any.unicode_isExcludingLatin_white Tryz.lays261 T oT R oR r w hlo hhi hr h2 h3 h4 h5
open Go.RowKit Go.Lib in
/-- **unicode.IsSpace AT EVERY int32.** (LAID: no walk: one application.) -/
theorem Tryz.unicode_IsSpace_any (r : Int) (w : World) (hlo : -2147483648 ≤ r) (hhi : r ≤ 2147483647) (hW : Lib.WhiteTab 2 w) :
    Calls Tryz.prog 103 #[.int .i32 r] w fun e w' => e = .returned (.bool (Lib.isSpaceZ r)) ∧ Below w.heap.size w w' := Any.unicode_IsSpace_any Tryz.lays199 r w hlo hhi hW
open Go.RowKit Go.Lib in
theorem Tryz.unicode_is16_white_d (R oR : Nat) (z : Nat) (w : World) (hz : z < 65536) (hz0 : 255 < z) (c6 : w.cell? ⟨R, oR + 6, none⟩ = some (.int .u16 160)) (c7 : w.cell? ⟨R, oR + 7, none⟩ = some (.int .u16 5760)) (c8 : w.cell? ⟨R, oR + 8, none⟩ = some (.int .u16 5600)) (c9 : w.cell? ⟨R, oR + 9, none⟩ = some (.int .u16 8192)) (c10 : w.cell? ⟨R, oR + 10, none⟩ = some (.int .u16 8202)) (c11 : w.cell? ⟨R, oR + 11, none⟩ = some (.int .u16 1)) (c12 : w.cell? ⟨R, oR + 12, none⟩ = some (.int .u16 8232)) (c13 : w.cell? ⟨R, oR + 13, none⟩ = some (.int .u16 8233)) (c14 : w.cell? ⟨R, oR + 14, none⟩ = some (.int .u16 1)) (c15 : w.cell? ⟨R, oR + 15, none⟩ = some (.int .u16 8239)) (c16 : w.cell? ⟨R, oR + 16, none⟩ = some (.int .u16 8287)) (c17 : w.cell? ⟨R, oR + 17, none⟩ = some (.int .u16 48)) (c18 : w.cell? ⟨R, oR + 18, none⟩ = some (.int .u16 12288)) (c19 : w.cell? ⟨R, oR + 19, none⟩ = some (.int .u16 12288)) (c20 : w.cell? ⟨R, oR + 20, none⟩ = some (.int .u16 1)) :
    Calls Tryz.prog 131 #[.slice (some ⟨R, oR + 6, none⟩) 5 5, .int .u16 z] w fun e w' => e = .returned (.bool (Lib.isSpaceR z)) ∧ ∃ q, w' = w.drewN q := Any.unicode_is16_white_d Tryz.lays311 R oR z w hz hz0 c6 c7 c8 c9 c10 c11 c12 c13 c14 c15 c16 c17 c18 c19 c20
open Go.RowKit Go.Lib in
/-- unicode.isExcludingLatin(White_Space, r), r beyond U+00FF or negative. (LAID: no walk: one application.) -/
theorem Tryz.unicode_isExcludingLatin_white_d (T oT R oR : Nat) (r : Int) (w : World) (hlo : -2147483648 ≤ r) (hhi : r ≤ 2147483647) (hr : r < 0 ∨ 255 < r) (h2 : w.cell? ⟨T, oT, none⟩ = some (.slice (some ⟨R, oR, none⟩) 7 7)) (h3 : w.cell? ⟨T, oT + 1, none⟩ = some (.slice none 0 0)) (h4 : w.cell? ⟨T, oT + 2, none⟩ = some (.int .i64 2)) (h5 : ∀ i, i < 21 → w.cell? ⟨R, oR + i, none⟩ = some (.int .u16 (whiteT.getD i 0))) :
    Calls Tryz.prog 116 #[.pointer (some ⟨T, oT, none⟩), .int .i32 r] w fun e w' => e = .returned (.bool (Lib.isSpaceZ r)) ∧ ∃ q, w' = w.drewN q := Any.unicode_isExcludingLatin_white_d Tryz.lays261 T oT R oR r w hlo hhi hr h2 h3 h4 h5
open Go.RowKit Go.Lib in
/-- **unicode.IsSpace AT EVERY int32.** (LAID: no walk: one application.) -/
theorem Tryz.unicode_IsSpace_any_d (r : Int) (w : World) (hlo : -2147483648 ≤ r) (hhi : r ≤ 2147483647) (hW : Lib.WhiteTab 2 w) :
    Calls Tryz.prog 103 #[.int .i32 r] w fun e w' => e = .returned (.bool (Lib.isSpaceZ r)) ∧ ∃ q, w' = w.drewN q := Any.unicode_IsSpace_any_d Tryz.lays199 r w hlo hhi hW
open Go.RowKit Go.Lib in
theorem Tryz.unicode_is16_any (T : Array Rg) (R oR cap : Nat) (z : Nat) (w : World) (hz : z < 65536) (hT : RgTab .u16 R oR T w) (hok : RgOk 65536 T) (hn : T.size ≤ 1000000000) :
    Calls Tryz.prog 131 #[.slice (some ⟨R, oR, none⟩) T.size cap, .int .u16 z] w fun e w' => e = .returned (.bool (is16Go T z)) ∧ ∃ q, w' = w.drewN q := Any.unicode_is16_any Tryz.lays311 T R oR cap z w hz hT hok hn
def Tryz.lays312_ren : Go.Shelf.Ren := ⟨fun | 312 => 132 | n => n, fun | 194 => 210 | 51 => 192 | 4 => 4 | 3 => 3 | 0 => 0 | 227 => 230 | 201 => 218 | 46 => 75 | n => n, fun | n => n⟩
theorem Tryz.lays312 : Go.Proofs.Lays.n312 Tryz.prog Tryz.lays312_ren := {
  mixed := by kernel_rfl
  f312 := Tryz.func132.trans (congrArg some (by kernel_rfl))
  t0 := Tryz.underlying0
  a0 := Tryz.isAgg0
  z0 := Tryz.sizeOf0
  v0 := Tryz.zeroValue0
  t3 := Tryz.underlying3
  a3 := Tryz.isAgg3
  z3 := Tryz.sizeOf3
  v3 := Tryz.zeroValue3
  t4 := Tryz.underlying4
  a4 := Tryz.isAgg4
  z4 := Tryz.sizeOf4
  v4 := Tryz.zeroValue4
  t46 := Tryz.underlying75
  a46 := Tryz.isAgg75
  z46 := Tryz.sizeOf75
  v46 := Tryz.zeroValue75
  t51 := Tryz.underlying192
  a51 := Tryz.isAgg192
  z51 := Tryz.sizeOf192
  v51 := Tryz.zeroValue192
  t194 := Tryz.underlying210
  a194 := Tryz.isAgg210
  z194 := Tryz.sizeOf210
  v194 := Tryz.zeroValue210
  t201 := Tryz.underlying218
  a201 := Tryz.isAgg218
  z201 := Tryz.sizeOf218
  v201 := Tryz.zeroValue218
  t227 := Tryz.underlying230
  a227 := Tryz.isAgg230
  z227 := Tryz.sizeOf230
  v227 := Tryz.zeroValue230 }
open Go.RowKit Go.Lib in
theorem Tryz.unicode_is32_any (T : Array Rg) (R oR cap : Nat) (z : Nat) (w : World) (hz : z < 4294967296) (hT : RgTab .u32 R oR T w) (hok : RgOk 4294967296 T) (hn : T.size ≤ 1000000000) :
    Calls Tryz.prog 132 #[.slice (some ⟨R, oR, none⟩) T.size cap, .int .u32 z] w fun e w' => e = .returned (.bool (is32Go T z)) ∧ Below w.heap.size w w' := Any.unicode_is32_any Tryz.lays312 T R oR cap z w hz hT hok hn
open Go.RowKit Go.Lib in
theorem Tryz.unicode_isExcludingLatin_any (Tb oT : Nat) (T : RTab) (r : Int) (w : World) (hlo : -2147483648 ≤ r) (hhi : r ≤ 2147483647) (hA : RTabAt Tb oT T w) (hok : RTabOk T) :
    Calls Tryz.prog 116 #[.pointer (some ⟨Tb, oT, none⟩), .int .i32 r] w fun e w' => e = .returned (.bool (exclGo T r)) ∧ Below w.heap.size w w' := Any.unicode_isExcludingLatin_any Tryz.lays261 Tb oT T r w hlo hhi hA hok
open Go.RowKit Go.Sort in
/-- .. and plain. (LAID: no walk: one application.) -/
theorem Tryz.slices_Sort_string_none (p : Option Addr) (cap : Nat) (w : World) :
    Calls Tryz.prog 92 #[.slice p 0 cap] w fun e w' => e = .returned (.tuple #[]) ∧ w' = w := Any.slices_Sort_string_none Tryz.lays190 p cap w
open Go.RowKit Go.Sort in
/-- .. and plain. (LAID: no walk: one application.) -/
theorem Tryz.sort_Strings_none (p : Option Addr) (cap : Nat) (w : World) :
    Calls Tryz.prog 75 #[.slice p 0 cap] w fun e w' => e = .returned (.tuple #[]) ∧ w' = w := Any.sort_Strings_none Tryz.lays192 p cap w
def Tryz.laysnb116_ren : Go.Shelf.Ren := ⟨fun | 116 => 99 | 115 => 112 | n => n, fun | 37 => 83 | 4 => 4 | 3 => 3 | 9 => 9 | 5 => 5 | n => n, fun | n => n⟩
theorem Tryz.laysnb116 : Go.Proofs.Lays.nb116 Tryz.prog Tryz.laysnb116_ren := {
  mixed := by kernel_rfl
  f115 := Tryz.func112.trans (congrArg some (by kernel_rfl))
  f116 := Tryz.func99.trans (congrArg some (by kernel_rfl))
  t3 := Tryz.underlying3
  a3 := Tryz.isAgg3
  z3 := Tryz.sizeOf3
  v3 := Tryz.zeroValue3
  t4 := Tryz.underlying4
  a4 := Tryz.isAgg4
  z4 := Tryz.sizeOf4
  v4 := Tryz.zeroValue4
  t9 := Tryz.underlying9
  a9 := Tryz.isAgg9
  z9 := Tryz.sizeOf9
  v9 := Tryz.zeroValue9
  t37 := Tryz.underlying83
  a37 := Tryz.isAgg83
  z37 := Tryz.sizeOf83
  v37 := Tryz.zeroValue83
  t5 := Tryz.underlying5
  a5 := Tryz.isAgg5
  z5 := Tryz.sizeOf5
  v5 := Tryz.zeroValue5 }
theorem Tryz.bytes_HasPrefix_e2 (p1 p2 : Option Addr) (n c d : Nat) (w : World) :
    Calls Tryz.prog 99 #[.slice p1 n c, .slice p2 0 d] w fun e w' => e = .returned (.bool true) ∧ w' = w := Any.bytes_HasPrefix_e2 Tryz.laysnb116 p1 p2 n c d w
theorem Tryz.bytes_HasPrefix_e1 (p1 p2 : Option Addr) (c m d : Nat) (hm : 0 < m) (w : World) :
    Calls Tryz.prog 99 #[.slice p1 0 c, .slice p2 m d] w fun e w' => e = .returned (.bool false) ∧ w' = w := Any.bytes_HasPrefix_e1 Tryz.laysnb116 p1 p2 c m d hm w
def Tryz.laysnb139_ren : Go.Shelf.Ren := ⟨fun | 139 => 85 | 116 => 99 | 115 => 112 | n => n, fun | 37 => 83 | 4 => 4 | 3 => 3 | 9 => 9 | 5 => 5 | n => n, fun | n => n⟩
theorem Tryz.laysnb139 : Go.Proofs.Lays.nb139 Tryz.prog Tryz.laysnb139_ren := {
  mixed := by kernel_rfl
  f115 := Tryz.func112.trans (congrArg some (by kernel_rfl))
  f116 := Tryz.func99.trans (congrArg some (by kernel_rfl))
  f139 := Tryz.func85.trans (congrArg some (by kernel_rfl))
  t3 := Tryz.underlying3
  a3 := Tryz.isAgg3
  z3 := Tryz.sizeOf3
  v3 := Tryz.zeroValue3
  t4 := Tryz.underlying4
  a4 := Tryz.isAgg4
  z4 := Tryz.sizeOf4
  v4 := Tryz.zeroValue4
  t9 := Tryz.underlying9
  a9 := Tryz.isAgg9
  z9 := Tryz.sizeOf9
  v9 := Tryz.zeroValue9
  t37 := Tryz.underlying83
  a37 := Tryz.isAgg83
  z37 := Tryz.sizeOf83
  v37 := Tryz.zeroValue83
  t5 := Tryz.underlying5
  a5 := Tryz.isAgg5
  z5 := Tryz.sizeOf5
  v5 := Tryz.zeroValue5 }
theorem Tryz.bytes_TrimPrefix_e2 (p1 p2 : Option Addr) (n c d : Nat) (_hnc : n ≤ c) (w : World) :
    Calls Tryz.prog 85 #[.slice p1 n c, .slice p2 0 d] w fun e w' => e = .returned (.slice p1 n c) ∧ w' = w := Any.bytes_TrimPrefix_e2 Tryz.laysnb139 p1 p2 n c d _hnc w
theorem Tryz.bytes_TrimPrefix_e1 (p1 p2 : Option Addr) (c m d : Nat) (hm : 0 < m) (w : World) :
    Calls Tryz.prog 85 #[.slice p1 0 c, .slice p2 m d] w fun e w' => e = .returned (.slice p1 0 c) ∧ w' = w := Any.bytes_TrimPrefix_e1 Tryz.laysnb139 p1 p2 c m d hm w
/-- bytes.HasPrefix: WHOLE: each argument nil, or of no byte at whatever address, or at an address with its cells. (LAID: no walk: one application.) -/
theorem Tryz.bytes_HasPrefix_all (p1 p2 : Option Addr) (n c m d : Nat) (xs ys : List Int) (w : World) (hx : xs.length = n) (hy : ys.length = m) (hnc : n ≤ c) (h1 : Lib.BytesIn w p1 n xs) (h2 : Lib.BytesIn w p2 m ys) :
    Calls Tryz.prog 99 #[.slice p1 n c, .slice p2 m d] w fun e w' => e = .returned (.bool (Lib.hasPrefix (Lib.bytesOf xs) (Lib.bytesOf ys))) ∧ w' = w := Any.bytes_HasPrefix_all Tryz.laysnb116 p1 p2 n c m d xs ys w hx hy hnc h1 h2
/-- bytes.TrimPrefix: WHOLE. (LAID: no walk: one application.) -/
theorem Tryz.bytes_TrimPrefix_all (p1 p2 : Option Addr) (n c m d : Nat) (xs ys : List Int) (w : World) (hx : xs.length = n) (hy : ys.length = m) (hnc : n ≤ c) (h1 : Lib.BytesIn w p1 n xs) (h2 : Lib.BytesIn w p2 m ys) :
    Calls Tryz.prog 85 #[.slice p1 n c, .slice p2 m d] w fun e w' => e = .returned (Lib.trimPrefixV p1 n c xs ys) ∧ w' = w := Any.bytes_TrimPrefix_all Tryz.laysnb139 p1 p2 n c m d xs ys w hx hy hnc h1 h2
def Tryz.lays115_ren : Go.Shelf.Ren := ⟨fun | 115 => 112 | n => n, fun | 37 => 83 | 4 => 4 | 9 => 9 | 5 => 5 | n => n, fun | n => n⟩
theorem Tryz.lays115 : Go.Proofs.Lays.n115 Tryz.prog Tryz.lays115_ren := {
  mixed := by kernel_rfl
  f115 := Tryz.func112.trans (congrArg some (by kernel_rfl))
  t4 := Tryz.underlying4
  a4 := Tryz.isAgg4
  z4 := Tryz.sizeOf4
  v4 := Tryz.zeroValue4
  t9 := Tryz.underlying9
  a9 := Tryz.isAgg9
  z9 := Tryz.sizeOf9
  v9 := Tryz.zeroValue9
  t37 := Tryz.underlying83
  a37 := Tryz.isAgg83
  z37 := Tryz.sizeOf83
  v37 := Tryz.zeroValue83 }
/-- bytes.Equal: "Equal reports whether a and b are the same length and contain the same bytes. A nil argument is equivalent to an empty slice.": IT RETURNS 'the bytes of the one == the bytes of the other'; the world is as it was. THE TWO ARGUMENTS COME AS WHATEVER VALUES, each with the one fact that the walk wants of it: what 'string(..)' of it gives: for a slice whose cells you know: 'run_convert_bytes_arg' (Derived/Laws/BytesArg.lean) hands that fact; for a nil one: 'run_convert_bytes_nil' (with xs := []). (LAID: no walk: one application.) -/
theorem Tryz.bytes_Equal (v1 v2 : Value) (xs ys : List Int) (w : World) (h1 : (convert 83 9 v1).run Tryz.prog w = .ok (.string (strOfNums xs)) w) (h2 : (convert 83 9 v2).run Tryz.prog w = .ok (.string (strOfNums ys)) w) :
    Calls Tryz.prog 112 #[v1, v2] w fun e w' => e = .returned (.bool (Lib.bytesOf xs == Lib.bytesOf ys)) ∧ w' = w := Any.bytes_Equal Tryz.lays115 v1 v2 xs ys w h1 h2
/-- bytes.HasPrefix: "HasPrefix reports whether the byte slice s begins with prefix.": IT RETURNS 'Lib.hasPrefix (the bytes of s) (the bytes of prefix)'; the world is as it was. ITS CALLEE bytes.Equal IS MET BY ITS OWN CONTRACT OFF THE SHELF (lay that first). 'xs', 'ys': the numbers that the two slices' cells hold. (LAID: no walk: one application.) -/
theorem Tryz.bytes_HasPrefix (b1 o1 n c b2 o2 m d : Nat) (xs ys : List Int) (w : World) (hx : xs.length = n) (hy : ys.length = m) (hnc : n ≤ c) (hc1 : ∀ i, i < n → w.cell? ⟨b1, o1 + i, none⟩ = some (.int .u8 (xs.getD i 0))) (hc2 : ∀ i, i < m → w.cell? ⟨b2, o2 + i, none⟩ = some (.int .u8 (ys.getD i 0))) :
    Calls Tryz.prog 99 #[.slice (some ⟨b1, o1, none⟩) n c, .slice (some ⟨b2, o2, none⟩) m d] w fun e w' => e = .returned (.bool (Lib.hasPrefix (Lib.bytesOf xs) (Lib.bytesOf ys))) ∧ w' = w := Any.bytes_HasPrefix Tryz.laysnb116 b1 o1 n c b2 o2 m d xs ys w hx hy hnc hc1 hc2
/-- bytes.TrimPrefix: "TrimPrefix returns s without the provided leading prefix string. If s doesn't start with prefix, s is returned unchanged.": IT RETURNS 'Lib.bytesTrimPrefix': s[len(prefix):] OF THE ARGUMENT's OWN MEMORY where s begins with prefix, else s itself; the world is as it was. ITS CALLEE bytes.HasPrefix IS MET BY ITS OWN CONTRACT OFF THE SHELF (lay that first). (LAID: no walk: one application.) -/
theorem Tryz.bytes_TrimPrefix (b1 o1 n c b2 o2 m d : Nat) (xs ys : List Int) (w : World) (hx : xs.length = n) (hy : ys.length = m) (hnc : n ≤ c) (hc1 : ∀ i, i < n → w.cell? ⟨b1, o1 + i, none⟩ = some (.int .u8 (xs.getD i 0))) (hc2 : ∀ i, i < m → w.cell? ⟨b2, o2 + i, none⟩ = some (.int .u8 (ys.getD i 0))) :
    Calls Tryz.prog 85 #[.slice (some ⟨b1, o1, none⟩) n c, .slice (some ⟨b2, o2, none⟩) m d] w fun e w' => e = .returned (Lib.bytesTrimPrefix b1 o1 n c xs ys) ∧ w' = w := Any.bytes_TrimPrefix Tryz.laysnb139 b1 o1 n c b2 o2 m d xs ys w hx hy hnc hc1 hc2
def Tryz.lays196_ren : Go.Shelf.Ren := ⟨fun | 196 => 34 | 259 => 62 | n => n, fun | 9 => 9 | 4 => 4 | 3 => 3 | 5 => 5 | 12 => 12 | 119 => 105 | 0 => 0 | 46 => 75 | 139 => 108 | 138 => 107 | 53 => 132 | n => n, fun | 3 => 0 | 4 => 1 | n => n⟩
theorem Tryz.lays196 : Go.Proofs.Lays.n196 Tryz.prog Tryz.lays196_ren := {
  mixed := by kernel_rfl
  f196 := Tryz.func34.trans (congrArg some (by kernel_rfl))
  f259 := Tryz.func62.trans (congrArg some (by kernel_rfl))
  t0 := Tryz.underlying0
  a0 := Tryz.isAgg0
  z0 := Tryz.sizeOf0
  v0 := Tryz.zeroValue0
  t3 := Tryz.underlying3
  a3 := Tryz.isAgg3
  z3 := Tryz.sizeOf3
  v3 := Tryz.zeroValue3
  t4 := Tryz.underlying4
  a4 := Tryz.isAgg4
  z4 := Tryz.sizeOf4
  v4 := Tryz.zeroValue4
  t5 := Tryz.underlying5
  a5 := Tryz.isAgg5
  z5 := Tryz.sizeOf5
  v5 := Tryz.zeroValue5
  t9 := Tryz.underlying9
  a9 := Tryz.isAgg9
  z9 := Tryz.sizeOf9
  v9 := Tryz.zeroValue9
  t12 := Tryz.underlying12
  a12 := Tryz.isAgg12
  z12 := Tryz.sizeOf12
  v12 := Tryz.zeroValue12
  t46 := Tryz.underlying75
  a46 := Tryz.isAgg75
  z46 := Tryz.sizeOf75
  v46 := Tryz.zeroValue75
  t53 := Tryz.underlying132
  a53 := Tryz.isAgg132
  z53 := Tryz.sizeOf132
  v53 := Tryz.zeroValue132
  t119 := Tryz.underlying105
  a119 := Tryz.isAgg105
  z119 := Tryz.sizeOf105
  t138 := Tryz.underlying107
  a138 := Tryz.isAgg107
  z138 := Tryz.sizeOf107
  v138 := Tryz.zeroValue107
  t139 := Tryz.underlying108
  a139 := Tryz.isAgg108
  z139 := Tryz.sizeOf108
  v139 := Tryz.zeroValue108
  g3 := by kernel_rfl
  g4 := by kernel_rfl }
open Go.RowKit Go.Lib in
theorem Tryz.utf8_ValidString (s : ByteArray) (w : World) (hs : s.size ≤ 9223372036854775807) (hT : Lib.Utf8Tabs 0 1 w) :
    Calls Tryz.prog 34 #[.string s] w fun e w' => e = .returned (.bool (Lib.validD s.data.toList)) ∧ Below w.heap.size w w' := Any.utf8_ValidString Tryz.lays196 s w hs hT
end Go.Proofs
