/-
  DERIVED: THE SHELF's CONTRACTS AT THIS DUMP, IN PLAIN WORDS (tools/lay-plain.mjs out of 'TrydShelf.lean', which tools/lay-shelf.mjs wrote): THE SAME DECLARATIONS UNDER THE SAME NAMES: 'import', 'namespace', 'open', 'def', 'theorem' AND NOTHING ELSE: no command of the shelf's: FOR A HAND-IN. Each laying: the table of numbers ('.._ren') and one theorem, a field a fact of the dump's own or the kernel's comparison; each contract: ONE APPLICATION.
-/
import Derived.Shelf.Unicode.ValidAny
import Derived.Shelf.Strings.Builder1
import Derived.Shelf.Strings.BuilderF
import Derived.Shelf.Strings.BuilderK
import Derived.Shelf.Unicode.Latin
import Derived.Shelf.Unicode.Decode
import Derived.Shelf.Unicode.DecodeSlow
import Derived.Shelf.Unicode.DecodeAny
import Derived.Shelf.Unicode.Is16White
import Derived.Shelf.Unicode.IsSpaceAny
import Derived.Shelf.Unicode.Is16WhiteD
import Derived.Shelf.Unicode.IsSpaceAnyD
import Derived.Shelf.Unicode.Is16Any
import Derived.Shelf.Unicode.Is32Any
import Derived.Shelf.Unicode.ExclAny
import Derived.Shelf.Strings.BuilderCap
import Derived.Test.YtgmhigjhooihdaaDoorProg
namespace Go.Proofs
open Go.Shelf
def Tryd.lays169_ren : Go.Shelf.Ren := ⟨fun | 169 => 10 | n => n, fun | 70 => 38 | 9 => 9 | 0 => 0 | 72 => 41 | 37 => 39 | 127 => 61 | 3 => 3 | 5 => 5 | n => n, fun | n => n⟩
theorem Tryd.lays169 : Go.Proofs.Lays.n169 Tryd.prog Tryd.lays169_ren := {
  mixed := by kernel_rfl
  f169 := Tryd.func10.trans (congrArg some (by kernel_rfl))
  t0 := Tryd.underlying0
  a0 := Tryd.isAgg0
  z0 := Tryd.sizeOf0
  v0 := Tryd.zeroValue0
  t3 := Tryd.underlying3
  a3 := Tryd.isAgg3
  z3 := Tryd.sizeOf3
  v3 := Tryd.zeroValue3
  t9 := Tryd.underlying9
  a9 := Tryd.isAgg9
  z9 := Tryd.sizeOf9
  v9 := Tryd.zeroValue9
  t37 := Tryd.underlying39
  a37 := Tryd.isAgg39
  z37 := Tryd.sizeOf39
  v37 := Tryd.zeroValue39
  t70 := Tryd.underlying38
  a70 := Tryd.isAgg38
  z70 := Tryd.sizeOf38
  v70 := Tryd.zeroValue38
  t72 := Tryd.underlying41
  a72 := Tryd.isAgg41
  z72 := Tryd.sizeOf41
  v72 := Tryd.zeroValue41
  t127 := Tryd.underlying61
  a127 := Tryd.isAgg61
  z127 := Tryd.sizeOf61
  v127 := Tryd.zeroValue61 }
theorem Tryd.Builder_Extra_169 : Builder.Extra Tryd.prog Tryd.lays169_ren := {
  sizeBuilder := by kernel_rfl
  liesBuilder := by kernel_rfl
  t5 := Tryd.underlying5
  a5 := Tryd.isAgg5
  z5 := Tryd.sizeOf5
  v5 := Tryd.zeroValue5
  infoByte := by kernel_rfl
  cellsByte := by kernel_rfl
  sizeByte := by kernel_rfl
  neB5 := by decide }
open Go.RowKit in
/-- (*strings.Builder).String: "String returns the accumulated string.": OF A BUILDER THAT HOLDS AT LEAST ONE BYTE. ✋ THE MODEL FREEZES THOSE BYTES IN THE BUFFER (unsafe.String): a later write INTO them ends the model's run without an answer; a later append BEHIND them goes on. The statement's order of evaluation is drawn: one draw. (LAID: no walk: one application.) -/
theorem Tryd.Builder_String (B b : Nat) (l : List UInt8) (w : World) (h : Lib.IsBuilder 41 5 B b (Lib.byteCells l) w) (h0 : l ≠ []) :
    Calls Tryd.prog 10 #[.pointer (some ⟨b, 0, none⟩)] w fun e w' => e = .returned (.string ⟨l.toArray⟩) ∧ Below B w w' := Any.Builder_String Tryd.lays169 Tryd.Builder_Extra_169 B b l w h h0
open Go.RowKit in
/-- (*strings.Builder).String OF A BUILDER THAT HOLDS NO BYTE: the empty string. (Its buffer is nil, or a row of which it has taken nothing yet; where that row has NO capacity the model lays one new block for unsafe.SliceData's 'some address'.) One draw. (LAID: no walk: one application.) -/
theorem Tryd.Builder_String_empty (B b : Nat) (w : World) (h : Lib.IsBuilder 41 5 B b [] w) (hBw : B ≤ w.heap.size) :
    Calls Tryd.prog 10 #[.pointer (some ⟨b, 0, none⟩)] w fun e w' => e = .returned (.string ⟨#[]⟩) ∧ Below B w w' := Any.Builder_String_empty Tryd.lays169 Tryd.Builder_Extra_169 B b w h hBw
open Go.RowKit in
/-- (*strings.Builder).String: "String returns the accumulated string.": WHATEVER THE BUILDER HOLDS. (LAID: no walk: one application.) -/
theorem Tryd.Builder_String_any (B b : Nat) (l : List UInt8) (w : World) (h : Lib.IsBuilder 41 5 B b (Lib.byteCells l) w) (hBw : B ≤ w.heap.size) :
    Calls Tryd.prog 10 #[.pointer (some ⟨b, 0, none⟩)] w fun e w' => e = .returned (.string ⟨l.toArray⟩) ∧ Below B w w' := Any.Builder_String_any Tryd.lays169 Tryd.Builder_Extra_169 B b l w h hBw
open Go.RowKit in
/-- (*strings.Builder).String: "String returns the accumulated string.": OF A BUILDER THAT HOLDS AT LEAST ONE BYTE. ✋ THE MODEL FREEZES THOSE BYTES IN THE BUFFER (unsafe.String): a later write INTO them ends the model's run without an answer; a later append BEHIND them goes on. The statement's order of evaluation is drawn: one draw. THE FORM '_f': IT SAYS BESIDES THAT THE BUILDER IS A BUILDER STILL ('Lib.IsBuilderF', the same bytes): SO IT CAN BE WRITTEN ON: 'b.WriteString(b.String()[:k])'. (LAID: no walk: one application.) -/
theorem Tryd.Builder_String_f (B b : Nat) (l : List UInt8) (w : World) (h : Lib.IsBuilderF 41 5 B b (Lib.byteCells l) w) (h0 : l ≠ []) :
    Calls Tryd.prog 10 #[.pointer (some ⟨b, 0, none⟩)] w fun e w' => e = .returned (.string ⟨l.toArray⟩) ∧ (Lib.IsBuilderF 41 5 B b (Lib.byteCells l) w' ∧ Below B w w') := Any.Builder_String_f Tryd.lays169 Tryd.Builder_Extra_169 B b l w h h0
open Go.RowKit in
/-- (*strings.Builder).String OF A BUILDER THAT HOLDS NO BYTE: the empty string; THE FORM '_f': a builder still. (LAID: no walk: one application.) -/
theorem Tryd.Builder_String_empty_f (B b : Nat) (w : World) (h : Lib.IsBuilderF 41 5 B b [] w) (hBw : B ≤ w.heap.size) :
    Calls Tryd.prog 10 #[.pointer (some ⟨b, 0, none⟩)] w fun e w' => e = .returned (.string ⟨#[]⟩) ∧ (Lib.IsBuilderF 41 5 B b [] w' ∧ Below B w w') := Any.Builder_String_empty_f Tryd.lays169 Tryd.Builder_Extra_169 B b w h hBw
open Go.RowKit in
/-- (*strings.Builder).String: "String returns the accumulated string.": WHATEVER THE BUILDER HOLDS; THE FORM '_f': OF A BUILDER THAT MAY HAVE BEEN READ BEFORE; AND IT IS A BUILDER STILL, holding the same bytes: it can be written on. (LAID: no walk: one application.) -/
theorem Tryd.Builder_String_any_f (B b : Nat) (l : List UInt8) (w : World) (h : Lib.IsBuilderF 41 5 B b (Lib.byteCells l) w) (hBw : B ≤ w.heap.size) :
    Calls Tryd.prog 10 #[.pointer (some ⟨b, 0, none⟩)] w fun e w' => e = .returned (.string ⟨l.toArray⟩) ∧ (Lib.IsBuilderF 41 5 B b (Lib.byteCells l) w' ∧ Below B w w') := Any.Builder_String_any_f Tryd.lays169 Tryd.Builder_Extra_169 B b l w h hBw
open Go.RowKit in
/-- (*strings.Builder).String: "String returns the accumulated string.": OF A BUILDER THAT HOLDS AT LEAST ONE BYTE. ✋ THE MODEL FREEZES THOSE BYTES IN THE BUFFER (unsafe.String): a later write INTO them ends the model's run without an answer; a later append BEHIND them goes on. The statement's order of evaluation is drawn: one draw. THE FORM '_k': OVER 'Lib.IsBuilderF' (a builder that 'String()' may have read), AND WITH THE FRAME THAT REACHES ABOVE THE BUILDER: 'Lib.OthersKept': every block that is not b and is no row of uint8's stands as it stood: the iterator of a range among them. (LAID: no walk: one application.) -/
theorem Tryd.Builder_String_k (B b : Nat) (l : List UInt8) (w : World) (h : Lib.IsBuilderF 41 5 B b (Lib.byteCells l) w) (h0 : l ≠ []) :
    Calls Tryd.prog 10 #[.pointer (some ⟨b, 0, none⟩)] w fun e w' => e = .returned (.string ⟨l.toArray⟩) ∧ (Lib.IsBuilderF 41 5 B b (Lib.byteCells l) w' ∧ Below B w w' ∧ Lib.OthersKept 5 (some b) w w') := Any.Builder_String_k Tryd.lays169 Tryd.Builder_Extra_169 B b l w h h0
open Go.RowKit in
/-- (*strings.Builder).String OF A BUILDER THAT HOLDS NO BYTE: the empty string; THE FORM '_k': OVER 'Lib.IsBuilderF' (a builder that 'String()' may have read), AND WITH THE FRAME THAT REACHES ABOVE THE BUILDER: 'Lib.OthersKept': every block that is not b and is no row of uint8's stands as it stood: the iterator of a range among them. (LAID: no walk: one application.) -/
theorem Tryd.Builder_String_empty_k (B b : Nat) (w : World) (h : Lib.IsBuilderF 41 5 B b [] w) (hBw : B ≤ w.heap.size) :
    Calls Tryd.prog 10 #[.pointer (some ⟨b, 0, none⟩)] w fun e w' => e = .returned (.string ⟨#[]⟩) ∧ (Lib.IsBuilderF 41 5 B b [] w' ∧ Below B w w' ∧ Lib.OthersKept 5 (some b) w w') := Any.Builder_String_empty_k Tryd.lays169 Tryd.Builder_Extra_169 B b w h hBw
open Go.RowKit in
/-- (*strings.Builder).String: "String returns the accumulated string.": WHATEVER THE BUILDER HOLDS; THE FORM '_k': OVER 'Lib.IsBuilderF' (a builder that 'String()' may have read), AND WITH THE FRAME THAT REACHES ABOVE THE BUILDER: 'Lib.OthersKept': every block that is not b and is no row of uint8's stands as it stood: the iterator of a range among them. (LAID: no walk: one application.) -/
theorem Tryd.Builder_String_any_k (B b : Nat) (l : List UInt8) (w : World) (h : Lib.IsBuilderF 41 5 B b (Lib.byteCells l) w) (hBw : B ≤ w.heap.size) :
    Calls Tryd.prog 10 #[.pointer (some ⟨b, 0, none⟩)] w fun e w' => e = .returned (.string ⟨l.toArray⟩) ∧ (Lib.IsBuilderF 41 5 B b (Lib.byteCells l) w' ∧ Below B w w' ∧ Lib.OthersKept 5 (some b) w w') := Any.Builder_String_any_k Tryd.lays169 Tryd.Builder_Extra_169 B b l w h hBw
def Tryd.lays199_ren : Go.Shelf.Ren := ⟨fun | 199 => 29 | 261 => 35 | 311 => 37 | 312 => 38 | n => n, fun | 21 => 21 | 4 => 4 | 51 => 86 | 141 => 88 | 0 => 0 | 196 => 96 | 193 => 93 | 3 => 3 | 198 => 99 | 49 => 97 | 194 => 94 | 201 => 102 | 226 => 105 | 46 => 46 | 227 => 106 | n => n, fun | 6 => 2 | n => n⟩
theorem Tryd.lays199 : Go.Proofs.Lays.n199 Tryd.prog Tryd.lays199_ren := {
  mixed := by kernel_rfl
  f199 := Tryd.func29.trans (congrArg some (by kernel_rfl))
  f261 := Tryd.func35.trans (congrArg some (by kernel_rfl))
  f311 := Tryd.func37.trans (congrArg some (by kernel_rfl))
  f312 := Tryd.func38.trans (congrArg some (by kernel_rfl))
  t0 := Tryd.underlying0
  a0 := Tryd.isAgg0
  z0 := Tryd.sizeOf0
  v0 := Tryd.zeroValue0
  t3 := Tryd.underlying3
  a3 := Tryd.isAgg3
  z3 := Tryd.sizeOf3
  v3 := Tryd.zeroValue3
  t4 := Tryd.underlying4
  a4 := Tryd.isAgg4
  z4 := Tryd.sizeOf4
  v4 := Tryd.zeroValue4
  t21 := Tryd.underlying21
  a21 := Tryd.isAgg21
  z21 := Tryd.sizeOf21
  v21 := Tryd.zeroValue21
  t46 := Tryd.underlying46
  a46 := Tryd.isAgg46
  z46 := Tryd.sizeOf46
  v46 := Tryd.zeroValue46
  t49 := Tryd.underlying97
  a49 := Tryd.isAgg97
  z49 := Tryd.sizeOf97
  v49 := Tryd.zeroValue97
  t51 := Tryd.underlying86
  a51 := Tryd.isAgg86
  z51 := Tryd.sizeOf86
  v51 := Tryd.zeroValue86
  t141 := Tryd.underlying88
  a141 := Tryd.isAgg88
  z141 := Tryd.sizeOf88
  v141 := Tryd.zeroValue88
  t193 := Tryd.underlying93
  a193 := Tryd.isAgg93
  z193 := Tryd.sizeOf93
  v193 := Tryd.zeroValue93
  t194 := Tryd.underlying94
  a194 := Tryd.isAgg94
  z194 := Tryd.sizeOf94
  v194 := Tryd.zeroValue94
  t196 := Tryd.underlying96
  a196 := Tryd.isAgg96
  z196 := Tryd.sizeOf96
  v196 := Tryd.zeroValue96
  t198 := Tryd.underlying99
  a198 := Tryd.isAgg99
  z198 := Tryd.sizeOf99
  v198 := Tryd.zeroValue99
  t201 := Tryd.underlying102
  a201 := Tryd.isAgg102
  z201 := Tryd.sizeOf102
  v201 := Tryd.zeroValue102
  t226 := Tryd.underlying105
  a226 := Tryd.isAgg105
  z226 := Tryd.sizeOf105
  v226 := Tryd.zeroValue105
  t227 := Tryd.underlying106
  a227 := Tryd.isAgg106
  z227 := Tryd.sizeOf106
  v227 := Tryd.zeroValue106
  g6 := by kernel_rfl }
open Go.RowKit Go.Lib in
theorem Tryd.unicode_IsSpace (r : Int) (w : World) (h0 : 0 ≤ r) (h : r ≤ 255) :
    Calls Tryd.prog 29 #[.int .i32 r] w fun e w' => e = .returned (.bool (Lib.isSpaceL r)) ∧ w' = w := Any.unicode_IsSpace Tryd.lays199 r w h0 h
def Tryd.lays197_ren : Go.Shelf.Ren := ⟨fun | 197 => 28 | 260 => 34 | n => n, fun | 9 => 9 | 21 => 21 | 3 => 3 | 4 => 4 | 5 => 5 | 105 => 78 | 119 => 73 | 0 => 0 | 46 => 46 | 139 => 76 | 138 => 75 | n => n, fun | 3 => 0 | 4 => 1 | n => n⟩
theorem Tryd.lays197 : Go.Proofs.Lays.n197 Tryd.prog Tryd.lays197_ren := {
  mixed := by kernel_rfl
  f197 := Tryd.func28.trans (congrArg some (by kernel_rfl))
  f260 := Tryd.func34.trans (congrArg some (by kernel_rfl))
  t0 := Tryd.underlying0
  a0 := Tryd.isAgg0
  z0 := Tryd.sizeOf0
  v0 := Tryd.zeroValue0
  t3 := Tryd.underlying3
  a3 := Tryd.isAgg3
  z3 := Tryd.sizeOf3
  v3 := Tryd.zeroValue3
  t4 := Tryd.underlying4
  a4 := Tryd.isAgg4
  z4 := Tryd.sizeOf4
  v4 := Tryd.zeroValue4
  t5 := Tryd.underlying5
  a5 := Tryd.isAgg5
  z5 := Tryd.sizeOf5
  v5 := Tryd.zeroValue5
  t9 := Tryd.underlying9
  a9 := Tryd.isAgg9
  z9 := Tryd.sizeOf9
  v9 := Tryd.zeroValue9
  t21 := Tryd.underlying21
  a21 := Tryd.isAgg21
  z21 := Tryd.sizeOf21
  v21 := Tryd.zeroValue21
  t46 := Tryd.underlying46
  a46 := Tryd.isAgg46
  z46 := Tryd.sizeOf46
  v46 := Tryd.zeroValue46
  t105 := Tryd.underlying78
  a105 := Tryd.isAgg78
  z105 := Tryd.sizeOf78
  v105 := Tryd.zeroValue78
  t119 := Tryd.underlying73
  a119 := Tryd.isAgg73
  z119 := Tryd.sizeOf73
  t138 := Tryd.underlying75
  a138 := Tryd.isAgg75
  z138 := Tryd.sizeOf75
  v138 := Tryd.zeroValue75
  t139 := Tryd.underlying76
  a139 := Tryd.isAgg76
  z139 := Tryd.sizeOf76
  v139 := Tryd.zeroValue76
  g3 := by kernel_rfl
  g4 := by kernel_rfl }
open Go.RowKit Go.Lib in
/-- unicode/utf8.DecodeRuneInString: "DecodeRuneInString is like DecodeRune but its input is a string.": ("DecodeRune unpacks the first UTF-8 encoding in p and returns the rune and its width in bytes."): WHERE s BEGINS WITH AN ASCII BYTE x: (x, 1). (LAID: no walk: one application.) -/
theorem Tryd.utf8_DecodeRuneInString_ascii (s : ByteArray) (x : UInt8) (w : World) (h0 : s.data.toList[0]? = some x) (hx : x.toNat < 128) :
    Calls Tryd.prog 28 #[.string s] w fun e w' => e = .returned (.tuple #[.int .i32 x.toNat, .int .i64 1]) ∧ w' = w := Any.utf8_DecodeRuneInString_ascii Tryd.lays197 s x w h0 hx
def Tryd.lays260_ren : Go.Shelf.Ren := ⟨fun | 260 => 34 | n => n, fun | 9 => 9 | 21 => 21 | 3 => 3 | 4 => 4 | 5 => 5 | 119 => 73 | 0 => 0 | 46 => 46 | 139 => 76 | 138 => 75 | n => n, fun | 3 => 0 | 4 => 1 | n => n⟩
theorem Tryd.lays260 : Go.Proofs.Lays.n260 Tryd.prog Tryd.lays260_ren := {
  mixed := by kernel_rfl
  f260 := Tryd.func34.trans (congrArg some (by kernel_rfl))
  t0 := Tryd.underlying0
  a0 := Tryd.isAgg0
  z0 := Tryd.sizeOf0
  v0 := Tryd.zeroValue0
  t3 := Tryd.underlying3
  a3 := Tryd.isAgg3
  z3 := Tryd.sizeOf3
  v3 := Tryd.zeroValue3
  t4 := Tryd.underlying4
  a4 := Tryd.isAgg4
  z4 := Tryd.sizeOf4
  v4 := Tryd.zeroValue4
  t5 := Tryd.underlying5
  a5 := Tryd.isAgg5
  z5 := Tryd.sizeOf5
  v5 := Tryd.zeroValue5
  t9 := Tryd.underlying9
  a9 := Tryd.isAgg9
  z9 := Tryd.sizeOf9
  v9 := Tryd.zeroValue9
  t21 := Tryd.underlying21
  a21 := Tryd.isAgg21
  z21 := Tryd.sizeOf21
  v21 := Tryd.zeroValue21
  t46 := Tryd.underlying46
  a46 := Tryd.isAgg46
  z46 := Tryd.sizeOf46
  v46 := Tryd.zeroValue46
  t119 := Tryd.underlying73
  a119 := Tryd.isAgg73
  z119 := Tryd.sizeOf73
  t138 := Tryd.underlying75
  a138 := Tryd.isAgg75
  z138 := Tryd.sizeOf75
  v138 := Tryd.zeroValue75
  t139 := Tryd.underlying76
  a139 := Tryd.isAgg76
  z139 := Tryd.sizeOf76
  v139 := Tryd.zeroValue76
  g3 := by kernel_rfl
  g4 := by kernel_rfl }
open Go.RowKit Go.Lib in
theorem Tryd.utf8_decodeRuneInStringSlow (s : ByteArray) (w : World) (hT : Lib.Utf8Tabs 0 1 w) :
    Calls Tryd.prog 34 #[.string s] w fun e w' => e = .returned (.tuple #[.int .i32 (Lib.decodeGo s).1, .int .i64 (Lib.decodeGo s).2]) ∧ Below w.heap.size w w' := Any.utf8_decodeRuneInStringSlow Tryd.lays260 s w hT
open Go.RowKit Go.Lib in
/-- **unicode/utf8.DecodeRuneInString AT EVERY STRING.** (LAID: no walk: one application.) -/
theorem Tryd.utf8_DecodeRuneInString (s : ByteArray) (w : World) (hT : Lib.Utf8Tabs 0 1 w) :
    Calls Tryd.prog 28 #[.string s] w fun e w' => e = .returned (.tuple #[.int .i32 (Lib.decodeGo s).1, .int .i64 (Lib.decodeGo s).2]) ∧ Below w.heap.size w w' := Any.utf8_DecodeRuneInString Tryd.lays197 s w hT
def Tryd.lays311_ren : Go.Shelf.Ren := ⟨fun | 311 => 37 | n => n, fun | 193 => 93 | 49 => 97 | 4 => 4 | 3 => 3 | 0 => 0 | 226 => 105 | 198 => 99 | 46 => 46 | n => n, fun | n => n⟩
theorem Tryd.lays311 : Go.Proofs.Lays.n311 Tryd.prog Tryd.lays311_ren := {
  mixed := by kernel_rfl
  f311 := Tryd.func37.trans (congrArg some (by kernel_rfl))
  t0 := Tryd.underlying0
  a0 := Tryd.isAgg0
  z0 := Tryd.sizeOf0
  v0 := Tryd.zeroValue0
  t3 := Tryd.underlying3
  a3 := Tryd.isAgg3
  z3 := Tryd.sizeOf3
  v3 := Tryd.zeroValue3
  t4 := Tryd.underlying4
  a4 := Tryd.isAgg4
  z4 := Tryd.sizeOf4
  v4 := Tryd.zeroValue4
  t46 := Tryd.underlying46
  a46 := Tryd.isAgg46
  z46 := Tryd.sizeOf46
  v46 := Tryd.zeroValue46
  t49 := Tryd.underlying97
  a49 := Tryd.isAgg97
  z49 := Tryd.sizeOf97
  v49 := Tryd.zeroValue97
  t193 := Tryd.underlying93
  a193 := Tryd.isAgg93
  z193 := Tryd.sizeOf93
  v193 := Tryd.zeroValue93
  t198 := Tryd.underlying99
  a198 := Tryd.isAgg99
  z198 := Tryd.sizeOf99
  v198 := Tryd.zeroValue99
  t226 := Tryd.underlying105
  a226 := Tryd.isAgg105
  z226 := Tryd.sizeOf105
  v226 := Tryd.zeroValue105 }
open Go.RowKit Go.Lib in
theorem Tryd.unicode_is16_white (R oR : Nat) (z : Nat) (w : World) (hz : z < 65536) (hz0 : 255 < z) (c6 : w.cell? ⟨R, oR + 6, none⟩ = some (.int .u16 160)) (c7 : w.cell? ⟨R, oR + 7, none⟩ = some (.int .u16 5760)) (c8 : w.cell? ⟨R, oR + 8, none⟩ = some (.int .u16 5600)) (c9 : w.cell? ⟨R, oR + 9, none⟩ = some (.int .u16 8192)) (c10 : w.cell? ⟨R, oR + 10, none⟩ = some (.int .u16 8202)) (c11 : w.cell? ⟨R, oR + 11, none⟩ = some (.int .u16 1)) (c12 : w.cell? ⟨R, oR + 12, none⟩ = some (.int .u16 8232)) (c13 : w.cell? ⟨R, oR + 13, none⟩ = some (.int .u16 8233)) (c14 : w.cell? ⟨R, oR + 14, none⟩ = some (.int .u16 1)) (c15 : w.cell? ⟨R, oR + 15, none⟩ = some (.int .u16 8239)) (c16 : w.cell? ⟨R, oR + 16, none⟩ = some (.int .u16 8287)) (c17 : w.cell? ⟨R, oR + 17, none⟩ = some (.int .u16 48)) (c18 : w.cell? ⟨R, oR + 18, none⟩ = some (.int .u16 12288)) (c19 : w.cell? ⟨R, oR + 19, none⟩ = some (.int .u16 12288)) (c20 : w.cell? ⟨R, oR + 20, none⟩ = some (.int .u16 1)) :
    Calls Tryd.prog 37 #[.slice (some ⟨R, oR + 6, none⟩) 5 5, .int .u16 z] w fun e w' => e = .returned (.bool (Lib.isSpaceR z)) ∧ Below w.heap.size w w' := Any.unicode_is16_white Tryd.lays311 R oR z w hz hz0 c6 c7 c8 c9 c10 c11 c12 c13 c14 c15 c16 c17 c18 c19 c20
def Tryd.lays261_ren : Go.Shelf.Ren := ⟨fun | 261 => 35 | 311 => 37 | 312 => 38 | n => n, fun | 141 => 88 | 21 => 21 | 4 => 4 | 0 => 0 | 196 => 96 | 193 => 93 | 3 => 3 | 51 => 86 | 198 => 99 | 49 => 97 | 194 => 94 | 201 => 102 | 226 => 105 | 46 => 46 | 227 => 106 | n => n, fun | n => n⟩
theorem Tryd.lays261 : Go.Proofs.Lays.n261 Tryd.prog Tryd.lays261_ren := {
  mixed := by kernel_rfl
  f261 := Tryd.func35.trans (congrArg some (by kernel_rfl))
  f311 := Tryd.func37.trans (congrArg some (by kernel_rfl))
  f312 := Tryd.func38.trans (congrArg some (by kernel_rfl))
  t0 := Tryd.underlying0
  a0 := Tryd.isAgg0
  z0 := Tryd.sizeOf0
  v0 := Tryd.zeroValue0
  t3 := Tryd.underlying3
  a3 := Tryd.isAgg3
  z3 := Tryd.sizeOf3
  v3 := Tryd.zeroValue3
  t4 := Tryd.underlying4
  a4 := Tryd.isAgg4
  z4 := Tryd.sizeOf4
  v4 := Tryd.zeroValue4
  t21 := Tryd.underlying21
  a21 := Tryd.isAgg21
  z21 := Tryd.sizeOf21
  v21 := Tryd.zeroValue21
  t46 := Tryd.underlying46
  a46 := Tryd.isAgg46
  z46 := Tryd.sizeOf46
  v46 := Tryd.zeroValue46
  t49 := Tryd.underlying97
  a49 := Tryd.isAgg97
  z49 := Tryd.sizeOf97
  v49 := Tryd.zeroValue97
  t51 := Tryd.underlying86
  a51 := Tryd.isAgg86
  z51 := Tryd.sizeOf86
  v51 := Tryd.zeroValue86
  t141 := Tryd.underlying88
  a141 := Tryd.isAgg88
  z141 := Tryd.sizeOf88
  v141 := Tryd.zeroValue88
  t193 := Tryd.underlying93
  a193 := Tryd.isAgg93
  z193 := Tryd.sizeOf93
  v193 := Tryd.zeroValue93
  t194 := Tryd.underlying94
  a194 := Tryd.isAgg94
  z194 := Tryd.sizeOf94
  v194 := Tryd.zeroValue94
  t196 := Tryd.underlying96
  a196 := Tryd.isAgg96
  z196 := Tryd.sizeOf96
  v196 := Tryd.zeroValue96
  t198 := Tryd.underlying99
  a198 := Tryd.isAgg99
  z198 := Tryd.sizeOf99
  v198 := Tryd.zeroValue99
  t201 := Tryd.underlying102
  a201 := Tryd.isAgg102
  z201 := Tryd.sizeOf102
  v201 := Tryd.zeroValue102
  t226 := Tryd.underlying105
  a226 := Tryd.isAgg105
  z226 := Tryd.sizeOf105
  v226 := Tryd.zeroValue105
  t227 := Tryd.underlying106
  a227 := Tryd.isAgg106
  z227 := Tryd.sizeOf106
  v227 := Tryd.zeroValue106 }
open Go.RowKit Go.Lib in
/-- unicode.isExcludingLatin(White_Space, r), r beyond U+00FF or negative. (LAID: no walk: one application.) -/
theorem Tryd.unicode_isExcludingLatin_white (T oT R oR : Nat) (r : Int) (w : World) (hlo : -2147483648 ≤ r) (hhi : r ≤ 2147483647) (hr : r < 0 ∨ 255 < r) (h2 : w.cell? ⟨T, oT, none⟩ = some (.slice (some ⟨R, oR, none⟩) 7 7)) (h3 : w.cell? ⟨T, oT + 1, none⟩ = some (.slice none 0 0)) (h4 : w.cell? ⟨T, oT + 2, none⟩ = some (.int .i64 2)) (h5 : ∀ i, i < 21 → w.cell? ⟨R, oR + i, none⟩ = some (.int .u16 (whiteT.getD i 0))) :
    Calls Tryd.prog 35 #[.pointer (some ⟨T, oT, none⟩), .int .i32 r] w fun e w' => e = .returned (.bool (Lib.isSpaceZ r)) ∧ Below w.heap.size w w' := Any.unicode_isExcludingLatin_white Tryd.lays261 T oT R oR r w hlo hhi hr h2 h3 h4 h5
open Go.RowKit Go.Lib in
/-- **unicode.IsSpace AT EVERY int32.** (LAID: no walk: one application.) -/
theorem Tryd.unicode_IsSpace_any (r : Int) (w : World) (hlo : -2147483648 ≤ r) (hhi : r ≤ 2147483647) (hW : Lib.WhiteTab 2 w) :
    Calls Tryd.prog 29 #[.int .i32 r] w fun e w' => e = .returned (.bool (Lib.isSpaceZ r)) ∧ Below w.heap.size w w' := Any.unicode_IsSpace_any Tryd.lays199 r w hlo hhi hW
open Go.RowKit Go.Lib in
theorem Tryd.unicode_is16_white_d (R oR : Nat) (z : Nat) (w : World) (hz : z < 65536) (hz0 : 255 < z) (c6 : w.cell? ⟨R, oR + 6, none⟩ = some (.int .u16 160)) (c7 : w.cell? ⟨R, oR + 7, none⟩ = some (.int .u16 5760)) (c8 : w.cell? ⟨R, oR + 8, none⟩ = some (.int .u16 5600)) (c9 : w.cell? ⟨R, oR + 9, none⟩ = some (.int .u16 8192)) (c10 : w.cell? ⟨R, oR + 10, none⟩ = some (.int .u16 8202)) (c11 : w.cell? ⟨R, oR + 11, none⟩ = some (.int .u16 1)) (c12 : w.cell? ⟨R, oR + 12, none⟩ = some (.int .u16 8232)) (c13 : w.cell? ⟨R, oR + 13, none⟩ = some (.int .u16 8233)) (c14 : w.cell? ⟨R, oR + 14, none⟩ = some (.int .u16 1)) (c15 : w.cell? ⟨R, oR + 15, none⟩ = some (.int .u16 8239)) (c16 : w.cell? ⟨R, oR + 16, none⟩ = some (.int .u16 8287)) (c17 : w.cell? ⟨R, oR + 17, none⟩ = some (.int .u16 48)) (c18 : w.cell? ⟨R, oR + 18, none⟩ = some (.int .u16 12288)) (c19 : w.cell? ⟨R, oR + 19, none⟩ = some (.int .u16 12288)) (c20 : w.cell? ⟨R, oR + 20, none⟩ = some (.int .u16 1)) :
    Calls Tryd.prog 37 #[.slice (some ⟨R, oR + 6, none⟩) 5 5, .int .u16 z] w fun e w' => e = .returned (.bool (Lib.isSpaceR z)) ∧ ∃ q, w' = w.drewN q := Any.unicode_is16_white_d Tryd.lays311 R oR z w hz hz0 c6 c7 c8 c9 c10 c11 c12 c13 c14 c15 c16 c17 c18 c19 c20
open Go.RowKit Go.Lib in
/-- unicode.isExcludingLatin(White_Space, r), r beyond U+00FF or negative. (LAID: no walk: one application.) -/
theorem Tryd.unicode_isExcludingLatin_white_d (T oT R oR : Nat) (r : Int) (w : World) (hlo : -2147483648 ≤ r) (hhi : r ≤ 2147483647) (hr : r < 0 ∨ 255 < r) (h2 : w.cell? ⟨T, oT, none⟩ = some (.slice (some ⟨R, oR, none⟩) 7 7)) (h3 : w.cell? ⟨T, oT + 1, none⟩ = some (.slice none 0 0)) (h4 : w.cell? ⟨T, oT + 2, none⟩ = some (.int .i64 2)) (h5 : ∀ i, i < 21 → w.cell? ⟨R, oR + i, none⟩ = some (.int .u16 (whiteT.getD i 0))) :
    Calls Tryd.prog 35 #[.pointer (some ⟨T, oT, none⟩), .int .i32 r] w fun e w' => e = .returned (.bool (Lib.isSpaceZ r)) ∧ ∃ q, w' = w.drewN q := Any.unicode_isExcludingLatin_white_d Tryd.lays261 T oT R oR r w hlo hhi hr h2 h3 h4 h5
open Go.RowKit Go.Lib in
/-- **unicode.IsSpace AT EVERY int32.** (LAID: no walk: one application.) -/
theorem Tryd.unicode_IsSpace_any_d (r : Int) (w : World) (hlo : -2147483648 ≤ r) (hhi : r ≤ 2147483647) (hW : Lib.WhiteTab 2 w) :
    Calls Tryd.prog 29 #[.int .i32 r] w fun e w' => e = .returned (.bool (Lib.isSpaceZ r)) ∧ ∃ q, w' = w.drewN q := Any.unicode_IsSpace_any_d Tryd.lays199 r w hlo hhi hW
open Go.RowKit Go.Lib in
theorem Tryd.unicode_is16_any (T : Array Rg) (R oR cap : Nat) (z : Nat) (w : World) (hz : z < 65536) (hT : RgTab .u16 R oR T w) (hok : RgOk 65536 T) (hn : T.size ≤ 1000000000) :
    Calls Tryd.prog 37 #[.slice (some ⟨R, oR, none⟩) T.size cap, .int .u16 z] w fun e w' => e = .returned (.bool (is16Go T z)) ∧ ∃ q, w' = w.drewN q := Any.unicode_is16_any Tryd.lays311 T R oR cap z w hz hT hok hn
def Tryd.lays312_ren : Go.Shelf.Ren := ⟨fun | 312 => 38 | n => n, fun | 194 => 94 | 51 => 86 | 4 => 4 | 3 => 3 | 0 => 0 | 227 => 106 | 201 => 102 | 46 => 46 | n => n, fun | n => n⟩
theorem Tryd.lays312 : Go.Proofs.Lays.n312 Tryd.prog Tryd.lays312_ren := {
  mixed := by kernel_rfl
  f312 := Tryd.func38.trans (congrArg some (by kernel_rfl))
  t0 := Tryd.underlying0
  a0 := Tryd.isAgg0
  z0 := Tryd.sizeOf0
  v0 := Tryd.zeroValue0
  t3 := Tryd.underlying3
  a3 := Tryd.isAgg3
  z3 := Tryd.sizeOf3
  v3 := Tryd.zeroValue3
  t4 := Tryd.underlying4
  a4 := Tryd.isAgg4
  z4 := Tryd.sizeOf4
  v4 := Tryd.zeroValue4
  t46 := Tryd.underlying46
  a46 := Tryd.isAgg46
  z46 := Tryd.sizeOf46
  v46 := Tryd.zeroValue46
  t51 := Tryd.underlying86
  a51 := Tryd.isAgg86
  z51 := Tryd.sizeOf86
  v51 := Tryd.zeroValue86
  t194 := Tryd.underlying94
  a194 := Tryd.isAgg94
  z194 := Tryd.sizeOf94
  v194 := Tryd.zeroValue94
  t201 := Tryd.underlying102
  a201 := Tryd.isAgg102
  z201 := Tryd.sizeOf102
  v201 := Tryd.zeroValue102
  t227 := Tryd.underlying106
  a227 := Tryd.isAgg106
  z227 := Tryd.sizeOf106
  v227 := Tryd.zeroValue106 }
open Go.RowKit Go.Lib in
theorem Tryd.unicode_is32_any (T : Array Rg) (R oR cap : Nat) (z : Nat) (w : World) (hz : z < 4294967296) (hT : RgTab .u32 R oR T w) (hok : RgOk 4294967296 T) (hn : T.size ≤ 1000000000) :
    Calls Tryd.prog 38 #[.slice (some ⟨R, oR, none⟩) T.size cap, .int .u32 z] w fun e w' => e = .returned (.bool (is32Go T z)) ∧ Below w.heap.size w w' := Any.unicode_is32_any Tryd.lays312 T R oR cap z w hz hT hok hn
open Go.RowKit Go.Lib in
theorem Tryd.unicode_isExcludingLatin_any (Tb oT : Nat) (T : RTab) (r : Int) (w : World) (hlo : -2147483648 ≤ r) (hhi : r ≤ 2147483647) (hA : RTabAt Tb oT T w) (hok : RTabOk T) :
    Calls Tryd.prog 35 #[.pointer (some ⟨Tb, oT, none⟩), .int .i32 r] w fun e w' => e = .returned (.bool (exclGo T r)) ∧ Below w.heap.size w w' := Any.unicode_isExcludingLatin_any Tryd.lays261 Tb oT T r w hlo hhi hA hok
def Tryd.lays196_ren : Go.Shelf.Ren := ⟨fun | 196 => 21 | 259 => 26 | n => n, fun | 9 => 9 | 4 => 4 | 3 => 3 | 5 => 5 | 12 => 12 | 119 => 73 | 0 => 0 | 46 => 46 | 139 => 76 | 138 => 75 | 53 => 83 | n => n, fun | 3 => 0 | 4 => 1 | n => n⟩
theorem Tryd.lays196 : Go.Proofs.Lays.n196 Tryd.prog Tryd.lays196_ren := {
  mixed := by kernel_rfl
  f196 := Tryd.func21.trans (congrArg some (by kernel_rfl))
  f259 := Tryd.func26.trans (congrArg some (by kernel_rfl))
  t0 := Tryd.underlying0
  a0 := Tryd.isAgg0
  z0 := Tryd.sizeOf0
  v0 := Tryd.zeroValue0
  t3 := Tryd.underlying3
  a3 := Tryd.isAgg3
  z3 := Tryd.sizeOf3
  v3 := Tryd.zeroValue3
  t4 := Tryd.underlying4
  a4 := Tryd.isAgg4
  z4 := Tryd.sizeOf4
  v4 := Tryd.zeroValue4
  t5 := Tryd.underlying5
  a5 := Tryd.isAgg5
  z5 := Tryd.sizeOf5
  v5 := Tryd.zeroValue5
  t9 := Tryd.underlying9
  a9 := Tryd.isAgg9
  z9 := Tryd.sizeOf9
  v9 := Tryd.zeroValue9
  t12 := Tryd.underlying12
  a12 := Tryd.isAgg12
  z12 := Tryd.sizeOf12
  v12 := Tryd.zeroValue12
  t46 := Tryd.underlying46
  a46 := Tryd.isAgg46
  z46 := Tryd.sizeOf46
  v46 := Tryd.zeroValue46
  t53 := Tryd.underlying83
  a53 := Tryd.isAgg83
  z53 := Tryd.sizeOf83
  v53 := Tryd.zeroValue83
  t119 := Tryd.underlying73
  a119 := Tryd.isAgg73
  z119 := Tryd.sizeOf73
  t138 := Tryd.underlying75
  a138 := Tryd.isAgg75
  z138 := Tryd.sizeOf75
  v138 := Tryd.zeroValue75
  t139 := Tryd.underlying76
  a139 := Tryd.isAgg76
  z139 := Tryd.sizeOf76
  v139 := Tryd.zeroValue76
  g3 := by kernel_rfl
  g4 := by kernel_rfl }
open Go.RowKit Go.Lib in
theorem Tryd.utf8_ValidString (s : ByteArray) (w : World) (hs : s.size ≤ 9223372036854775807) (hT : Lib.Utf8Tabs 0 1 w) :
    Calls Tryd.prog 21 #[.string s] w fun e w' => e = .returned (.bool (Lib.validD s.data.toList)) ∧ Below w.heap.size w w' := Any.utf8_ValidString Tryd.lays196 s w hs hT
end Go.Proofs
