/-
  DERIVED: THE SHELF's CONTRACTS AT THIS DUMP, IN PLAIN WORDS (tools/lay-plain.mjs out of 'TrydShelf.lean', which tools/lay-shelf.mjs wrote): THE SAME DECLARATIONS UNDER THE SAME NAMES: 'import', 'namespace', 'open', 'def', 'theorem' AND NOTHING ELSE: no command of the shelf's: FOR A HAND-IN. Each laying: the table of numbers ('.._ren') and one theorem, a field a fact of the dump's own or the kernel's comparison; each contract: ONE APPLICATION.
-/
import Derived.Shelf.Unicode.ValidAny
import Derived.Shelf.Strings.Builder1
import Derived.Shelf.Strings.Builder2
import Derived.Shelf.Small.Utf8
import Derived.Shelf.Strings.BuilderF
import Derived.Shelf.Strings.BuilderK
import Derived.Shelf.Strings.BuilderRune
import Derived.Shelf.Utf8.AppendRune
import Derived.Shelf.Utf8.AppendRunePlain
import Derived.Shelf.Strings.Builder2Cap
import Derived.Shelf.Unicode.Latin
import Derived.Shelf.Unicode.Props
import Derived.Shelf.LaysM
import Derived.Shelf.Unicode.PropsLaid
import Derived.Shelf.Unicode.Decode
import Derived.Shelf.Unicode.DecodeSlow
import Derived.Shelf.Unicode.DecodeAny
import Derived.Shelf.Unicode.Is16White
import Derived.Shelf.Unicode.IsSpaceAny
import Derived.Shelf.Unicode.Is16WhiteD
import Derived.Shelf.Unicode.IsSpaceAnyD
import Derived.Shelf.Unicode.CaseLookup
import Derived.Shelf.Unicode.CaseConvert
import Derived.Shelf.Unicode.CaseTo
import Derived.Shelf.Unicode.CaseLaid
import Derived.Shelf.Unicode.Is16Any
import Derived.Shelf.Unicode.Is32Any
import Derived.Shelf.Unicode.ExclAny
import Derived.Shelf.Unicode.PredsAny
import Derived.Shelf.Unicode.PredsPay
import Derived.Shelf.Strings.BuilderCap
import Derived.Test.YtdomnccokhhieaaDoorProg
namespace Go.Proofs
open Go.Shelf
def Tryd.lays169_ren : Go.Shelf.Ren := ⟨fun | 169 => 50 | n => n, fun | 70 => 49 | 9 => 9 | 0 => 0 | 72 => 51 | 37 => 46 | 127 => 71 | 3 => 3 | 5 => 5 | n => n, fun | n => n⟩
theorem Tryd.lays169 : Go.Proofs.Lays.n169 Tryd.prog Tryd.lays169_ren := {
  mixed := by kernel_rfl
  f169 := Tryd.func50.trans (congrArg some (by kernel_rfl))
  t0 := Tryd.underlying0
  a0 := Tryd.isAgg0
  z0 := Tryd.sizeOf0
  v0 := Tryd.zeroValue0
  t3 := Tryd.underlying3
  a3 := Tryd.isAgg3
  z3 := Tryd.sizeOf3
  v3 := Tryd.zeroValue3
  t9 := Tryd.underlying9
  a9 := Tryd.isAgg9
  z9 := Tryd.sizeOf9
  v9 := Tryd.zeroValue9
  t37 := Tryd.underlying46
  a37 := Tryd.isAgg46
  z37 := Tryd.sizeOf46
  v37 := Tryd.zeroValue46
  t70 := Tryd.underlying49
  a70 := Tryd.isAgg49
  z70 := Tryd.sizeOf49
  v70 := Tryd.zeroValue49
  t72 := Tryd.underlying51
  a72 := Tryd.isAgg51
  z72 := Tryd.sizeOf51
  v72 := Tryd.zeroValue51
  t127 := Tryd.underlying71
  a127 := Tryd.isAgg71
  z127 := Tryd.sizeOf71
  v127 := Tryd.zeroValue71 }
theorem Tryd.Builder_Extra_169 : Builder.Extra Tryd.prog Tryd.lays169_ren := {
  sizeBuilder := by kernel_rfl
  liesBuilder := by kernel_rfl
  t5 := Tryd.underlying5
  a5 := Tryd.isAgg5
  z5 := Tryd.sizeOf5
  v5 := Tryd.zeroValue5
  infoByte := by kernel_rfl
  cellsByte := by kernel_rfl
  sizeByte := by kernel_rfl
  neB5 := by decide }
open Go.RowKit in
/-- (*strings.Builder).String: "String returns the accumulated string.": OF A BUILDER THAT HOLDS AT LEAST ONE BYTE. ✋ THE MODEL FREEZES THOSE BYTES IN THE BUFFER (unsafe.String): a later write INTO them ends the model's run without an answer; a later append BEHIND them goes on. The statement's order of evaluation is drawn: one draw. (LAID: no walk: one application.) -/
theorem Tryd.Builder_String (B b : Nat) (l : List UInt8) (w : World) (h : Lib.IsBuilder 51 5 B b (Lib.byteCells l) w) (h0 : l ≠ []) :
    Calls Tryd.prog 50 #[.pointer (some ⟨b, 0, none⟩)] w fun e w' => e = .returned (.string ⟨l.toArray⟩) ∧ Below B w w' := Any.Builder_String Tryd.lays169 Tryd.Builder_Extra_169 B b l w h h0
open Go.RowKit in
/-- (*strings.Builder).String OF A BUILDER THAT HOLDS NO BYTE: the empty string. (Its buffer is nil, or a row of which it has taken nothing yet; where that row has NO capacity the model lays one new block for unsafe.SliceData's 'some address'.) One draw. (LAID: no walk: one application.) -/
theorem Tryd.Builder_String_empty (B b : Nat) (w : World) (h : Lib.IsBuilder 51 5 B b [] w) (hBw : B ≤ w.heap.size) :
    Calls Tryd.prog 50 #[.pointer (some ⟨b, 0, none⟩)] w fun e w' => e = .returned (.string ⟨#[]⟩) ∧ Below B w w' := Any.Builder_String_empty Tryd.lays169 Tryd.Builder_Extra_169 B b w h hBw
open Go.RowKit in
/-- (*strings.Builder).String: "String returns the accumulated string.": WHATEVER THE BUILDER HOLDS. (LAID: no walk: one application.) -/
theorem Tryd.Builder_String_any (B b : Nat) (l : List UInt8) (w : World) (h : Lib.IsBuilder 51 5 B b (Lib.byteCells l) w) (hBw : B ≤ w.heap.size) :
    Calls Tryd.prog 50 #[.pointer (some ⟨b, 0, none⟩)] w fun e w' => e = .returned (.string ⟨l.toArray⟩) ∧ Below B w w' := Any.Builder_String_any Tryd.lays169 Tryd.Builder_Extra_169 B b l w h hBw
def Tryd.lays241_ren : Go.Shelf.Ren := ⟨fun | 241 => 62 | 277 => 70 | n => n, fun | 70 => 49 | 3 => 3 | 0 => 0 | 72 => 51 | 37 => 46 | 5 => 5 | n => n, fun | n => n⟩
theorem Tryd.lays241 : Go.Proofs.Lays.n241 Tryd.prog Tryd.lays241_ren := {
  mixed := by kernel_rfl
  f241 := Tryd.func62.trans (congrArg some (by kernel_rfl))
  f277 := Tryd.func70.trans (congrArg some (by kernel_rfl))
  t0 := Tryd.underlying0
  a0 := Tryd.isAgg0
  z0 := Tryd.sizeOf0
  v0 := Tryd.zeroValue0
  t3 := Tryd.underlying3
  a3 := Tryd.isAgg3
  z3 := Tryd.sizeOf3
  v3 := Tryd.zeroValue3
  t37 := Tryd.underlying46
  a37 := Tryd.isAgg46
  z37 := Tryd.sizeOf46
  v37 := Tryd.zeroValue46
  t70 := Tryd.underlying49
  a70 := Tryd.isAgg49
  z70 := Tryd.sizeOf49
  v70 := Tryd.zeroValue49
  t72 := Tryd.underlying51
  a72 := Tryd.isAgg51
  z72 := Tryd.sizeOf51
  v72 := Tryd.zeroValue51 }
theorem Tryd.Builder_Extra_241 : Builder.Extra Tryd.prog Tryd.lays241_ren := {
  sizeBuilder := by kernel_rfl
  liesBuilder := by kernel_rfl
  t5 := Tryd.underlying5
  a5 := Tryd.isAgg5
  z5 := Tryd.sizeOf5
  v5 := Tryd.zeroValue5
  infoByte := by kernel_rfl
  cellsByte := by kernel_rfl
  sizeByte := by kernel_rfl
  neB5 := by decide }
open Go.RowKit in
/-- (*strings.Builder).grow (no doc but "grow copies the buffer to a new, larger buffer so that there are at least n bytes of capacity beyond len(b.buf)."): AT A BUILDER WITHOUT A BUFFER: a new row of whatever bytes for its buffer, none of them its own yet. Three draws. (LAID: no walk: one application.) -/
theorem Tryd.Builder_grow_fresh (B b n : Nat) (w : World) (hB : B ≤ b) (hbk : w.heap[b]? = some (.cells #[.pointer (some ⟨b, 0, none⟩), .slice none 0 0] 51 (0, 0))) (hBw : B ≤ w.heap.size) (hn : n ≤ 281474976710656) :
    Calls Tryd.prog 62 #[.pointer (some ⟨b, 0, none⟩), .int .i64 n] w fun e w' => e = .returned (.tuple #[]) ∧ (Lib.BuilderAt 51 5 B b (.pointer (some ⟨b, 0, none⟩)) [] w' ∧ Below B w w') := Any.Builder_grow_fresh Tryd.lays241 Tryd.Builder_Extra_241 B b n w hB hbk hBw hn
def Tryd.lays165_ren : Go.Shelf.Ren := ⟨fun | 165 => 47 | 240 => 61 | 241 => 62 | 276 => 69 | 277 => 70 | n => n, fun | 70 => 49 | 3 => 3 | 0 => 0 | 4 => 4 | 9 => 9 | 20 => 20 | 72 => 51 | 37 => 46 | 164 => 77 | 5 => 5 | n => n, fun | n => n⟩
theorem Tryd.lays165 : Go.Proofs.Lays.n165 Tryd.prog Tryd.lays165_ren := {
  mixed := by kernel_rfl
  f165 := Tryd.func47.trans (congrArg some (by kernel_rfl))
  f240 := Tryd.func61.trans (congrArg some (by kernel_rfl))
  f241 := Tryd.func62.trans (congrArg some (by kernel_rfl))
  f276 := Tryd.func69.trans (congrArg some (by kernel_rfl))
  f277 := Tryd.func70.trans (congrArg some (by kernel_rfl))
  t0 := Tryd.underlying0
  a0 := Tryd.isAgg0
  z0 := Tryd.sizeOf0
  v0 := Tryd.zeroValue0
  t3 := Tryd.underlying3
  a3 := Tryd.isAgg3
  z3 := Tryd.sizeOf3
  v3 := Tryd.zeroValue3
  t4 := Tryd.underlying4
  a4 := Tryd.isAgg4
  z4 := Tryd.sizeOf4
  v4 := Tryd.zeroValue4
  t9 := Tryd.underlying9
  a9 := Tryd.isAgg9
  z9 := Tryd.sizeOf9
  v9 := Tryd.zeroValue9
  t20 := Tryd.underlying20
  a20 := Tryd.isAgg20
  z20 := Tryd.sizeOf20
  v20 := Tryd.zeroValue20
  t37 := Tryd.underlying46
  a37 := Tryd.isAgg46
  z37 := Tryd.sizeOf46
  v37 := Tryd.zeroValue46
  t70 := Tryd.underlying49
  a70 := Tryd.isAgg49
  z70 := Tryd.sizeOf49
  v70 := Tryd.zeroValue49
  t72 := Tryd.underlying51
  a72 := Tryd.isAgg51
  z72 := Tryd.sizeOf51
  v72 := Tryd.zeroValue51
  t164 := Tryd.underlying77
  a164 := Tryd.isAgg77
  z164 := Tryd.sizeOf77
  v164 := Tryd.zeroValue77 }
theorem Tryd.Builder_Extra_165 : Builder.Extra Tryd.prog Tryd.lays165_ren := {
  sizeBuilder := by kernel_rfl
  liesBuilder := by kernel_rfl
  t5 := Tryd.underlying5
  a5 := Tryd.isAgg5
  z5 := Tryd.sizeOf5
  v5 := Tryd.zeroValue5
  infoByte := by kernel_rfl
  cellsByte := by kernel_rfl
  sizeByte := by kernel_rfl
  neB5 := by decide }
open Go.RowKit in
/-- (*strings.Builder).Grow AT A BUILDER THAT HAS NOT BEEN WRITTEN ('var b strings.Builder; b.Grow(n)'): "Grow grows b's capacity, if necessary, to guarantee space for another n bytes.": it holds no byte behind it as before it. (LAID: no walk: one application.) -/
theorem Tryd.Builder_Grow_fresh (B b n : Nat) (w : World) (hB : B ≤ b) (hbk : w.heap[b]? = some (.cells #[.pointer none, .slice none 0 0] 51 (0, 0))) (hBw : B ≤ w.heap.size) (hn : n ≤ 281474976710656) :
    Calls Tryd.prog 47 #[.pointer (some ⟨b, 0, none⟩), .int .i64 n] w fun e w' => e = .returned (.tuple #[]) ∧ (Lib.BuilderAt 51 5 B b (.pointer (some ⟨b, 0, none⟩)) [] w' ∧ Below B w w') := Any.Builder_Grow_fresh Tryd.lays165 Tryd.Builder_Extra_165 B b n w hB hbk hBw hn
def Tryd.lays119_ren : Go.Shelf.Ren := ⟨fun | 119 => 34 | n => n, fun | 21 => 21 | 4 => 4 | n => n, fun | n => n⟩
theorem Tryd.lays119 : Go.Proofs.Lays.n119 Tryd.prog Tryd.lays119_ren := {
  mixed := by kernel_rfl
  f119 := Tryd.func34.trans (congrArg some (by kernel_rfl))
  t4 := Tryd.underlying4
  a4 := Tryd.isAgg4
  z4 := Tryd.sizeOf4
  v4 := Tryd.zeroValue4
  t21 := Tryd.underlying21
  a21 := Tryd.isAgg21
  z21 := Tryd.sizeOf21
  v21 := Tryd.zeroValue21 }
/-- utf8.ValidRune: "ValidRune reports whether r can be legally encoded as UTF-8. Code points that are out of range or a surrogate half are illegal.": IT RETURNS 'Lib.validRune r'; the world is as it was. (LAID: no walk: one application.) -/
theorem Tryd.utf8_ValidRune (r : Int) (w : World) :
    Calls Tryd.prog 34 #[.int .i32 r] w fun e w' => e = .returned (.bool (Lib.validRune r)) ∧ w' = w := Any.utf8_ValidRune Tryd.lays119 r w
open Go.RowKit in
/-- (*strings.Builder).String: "String returns the accumulated string.": OF A BUILDER THAT HOLDS AT LEAST ONE BYTE. ✋ THE MODEL FREEZES THOSE BYTES IN THE BUFFER (unsafe.String): a later write INTO them ends the model's run without an answer; a later append BEHIND them goes on. The statement's order of evaluation is drawn: one draw. THE FORM '_f': IT SAYS BESIDES THAT THE BUILDER IS A BUILDER STILL ('Lib.IsBuilderF', the same bytes): SO IT CAN BE WRITTEN ON: 'b.WriteString(b.String()[:k])'. (LAID: no walk: one application.) -/
theorem Tryd.Builder_String_f (B b : Nat) (l : List UInt8) (w : World) (h : Lib.IsBuilderF 51 5 B b (Lib.byteCells l) w) (h0 : l ≠ []) :
    Calls Tryd.prog 50 #[.pointer (some ⟨b, 0, none⟩)] w fun e w' => e = .returned (.string ⟨l.toArray⟩) ∧ (Lib.IsBuilderF 51 5 B b (Lib.byteCells l) w' ∧ Below B w w') := Any.Builder_String_f Tryd.lays169 Tryd.Builder_Extra_169 B b l w h h0
open Go.RowKit in
/-- (*strings.Builder).String OF A BUILDER THAT HOLDS NO BYTE: the empty string; THE FORM '_f': a builder still. (LAID: no walk: one application.) -/
theorem Tryd.Builder_String_empty_f (B b : Nat) (w : World) (h : Lib.IsBuilderF 51 5 B b [] w) (hBw : B ≤ w.heap.size) :
    Calls Tryd.prog 50 #[.pointer (some ⟨b, 0, none⟩)] w fun e w' => e = .returned (.string ⟨#[]⟩) ∧ (Lib.IsBuilderF 51 5 B b [] w' ∧ Below B w w') := Any.Builder_String_empty_f Tryd.lays169 Tryd.Builder_Extra_169 B b w h hBw
open Go.RowKit in
/-- (*strings.Builder).String: "String returns the accumulated string.": WHATEVER THE BUILDER HOLDS; THE FORM '_f': OF A BUILDER THAT MAY HAVE BEEN READ BEFORE; AND IT IS A BUILDER STILL, holding the same bytes: it can be written on. (LAID: no walk: one application.) -/
theorem Tryd.Builder_String_any_f (B b : Nat) (l : List UInt8) (w : World) (h : Lib.IsBuilderF 51 5 B b (Lib.byteCells l) w) (hBw : B ≤ w.heap.size) :
    Calls Tryd.prog 50 #[.pointer (some ⟨b, 0, none⟩)] w fun e w' => e = .returned (.string ⟨l.toArray⟩) ∧ (Lib.IsBuilderF 51 5 B b (Lib.byteCells l) w' ∧ Below B w w') := Any.Builder_String_any_f Tryd.lays169 Tryd.Builder_Extra_169 B b l w h hBw
open Go.RowKit in
/-- (*strings.Builder).String: "String returns the accumulated string.": OF A BUILDER THAT HOLDS AT LEAST ONE BYTE. ✋ THE MODEL FREEZES THOSE BYTES IN THE BUFFER (unsafe.String): a later write INTO them ends the model's run without an answer; a later append BEHIND them goes on. The statement's order of evaluation is drawn: one draw. THE FORM '_k': OVER 'Lib.IsBuilderF' (a builder that 'String()' may have read), AND WITH THE FRAME THAT REACHES ABOVE THE BUILDER: 'Lib.OthersKept': every block that is not b and is no row of uint8's stands as it stood: the iterator of a range among them. (LAID: no walk: one application.) -/
theorem Tryd.Builder_String_k (B b : Nat) (l : List UInt8) (w : World) (h : Lib.IsBuilderF 51 5 B b (Lib.byteCells l) w) (h0 : l ≠ []) :
    Calls Tryd.prog 50 #[.pointer (some ⟨b, 0, none⟩)] w fun e w' => e = .returned (.string ⟨l.toArray⟩) ∧ (Lib.IsBuilderF 51 5 B b (Lib.byteCells l) w' ∧ Below B w w' ∧ Lib.OthersKept 5 (some b) w w') := Any.Builder_String_k Tryd.lays169 Tryd.Builder_Extra_169 B b l w h h0
open Go.RowKit in
/-- (*strings.Builder).String OF A BUILDER THAT HOLDS NO BYTE: the empty string; THE FORM '_k': OVER 'Lib.IsBuilderF' (a builder that 'String()' may have read), AND WITH THE FRAME THAT REACHES ABOVE THE BUILDER: 'Lib.OthersKept': every block that is not b and is no row of uint8's stands as it stood: the iterator of a range among them. (LAID: no walk: one application.) -/
theorem Tryd.Builder_String_empty_k (B b : Nat) (w : World) (h : Lib.IsBuilderF 51 5 B b [] w) (hBw : B ≤ w.heap.size) :
    Calls Tryd.prog 50 #[.pointer (some ⟨b, 0, none⟩)] w fun e w' => e = .returned (.string ⟨#[]⟩) ∧ (Lib.IsBuilderF 51 5 B b [] w' ∧ Below B w w' ∧ Lib.OthersKept 5 (some b) w w') := Any.Builder_String_empty_k Tryd.lays169 Tryd.Builder_Extra_169 B b w h hBw
open Go.RowKit in
/-- (*strings.Builder).String: "String returns the accumulated string.": WHATEVER THE BUILDER HOLDS; THE FORM '_k': OVER 'Lib.IsBuilderF' (a builder that 'String()' may have read), AND WITH THE FRAME THAT REACHES ABOVE THE BUILDER: 'Lib.OthersKept': every block that is not b and is no row of uint8's stands as it stood: the iterator of a range among them. (LAID: no walk: one application.) -/
theorem Tryd.Builder_String_any_k (B b : Nat) (l : List UInt8) (w : World) (h : Lib.IsBuilderF 51 5 B b (Lib.byteCells l) w) (hBw : B ≤ w.heap.size) :
    Calls Tryd.prog 50 #[.pointer (some ⟨b, 0, none⟩)] w fun e w' => e = .returned (.string ⟨l.toArray⟩) ∧ (Lib.IsBuilderF 51 5 B b (Lib.byteCells l) w' ∧ Below B w w' ∧ Lib.OthersKept 5 (some b) w w') := Any.Builder_String_any_k Tryd.lays169 Tryd.Builder_Extra_169 B b l w h hBw
def Tryd.lays278_ren : Go.Shelf.Ren := ⟨fun | 278 => 71 | n => n, fun | 37 => 46 | 21 => 21 | 51 => 73 | 4 => 4 | 46 => 66 | 5 => 5 | n => n, fun | n => n⟩
theorem Tryd.lays278 : Go.Proofs.Lays.n278 Tryd.prog Tryd.lays278_ren := {
  mixed := by kernel_rfl
  f278 := Tryd.func71.trans (congrArg some (by kernel_rfl))
  t4 := Tryd.underlying4
  a4 := Tryd.isAgg4
  z4 := Tryd.sizeOf4
  v4 := Tryd.zeroValue4
  t5 := Tryd.underlying5
  a5 := Tryd.isAgg5
  z5 := Tryd.sizeOf5
  v5 := Tryd.zeroValue5
  t21 := Tryd.underlying21
  a21 := Tryd.isAgg21
  z21 := Tryd.sizeOf21
  v21 := Tryd.zeroValue21
  t37 := Tryd.underlying46
  a37 := Tryd.isAgg46
  z37 := Tryd.sizeOf46
  v37 := Tryd.zeroValue46
  t46 := Tryd.underlying66
  a46 := Tryd.isAgg66
  z46 := Tryd.sizeOf66
  v46 := Tryd.zeroValue66
  t51 := Tryd.underlying73
  a51 := Tryd.isAgg73
  z51 := Tryd.sizeOf73
  v51 := Tryd.zeroValue73 }
open Go.RowKit in
/-- unicode/utf8.appendRuneNonASCII (what AppendRune calls for all but ASCII), ONTO A ROW OF BYTES THAT THE CALL OWNS: every int32 that is no ASCII rune: 'Lib.runeCells r' goes in behind what the row holds. (LAID: no walk: one application.) -/
theorem Tryd.utf8_appendRuneNonASCII_row (B : Nat) (v : Value) (n : Nat) (xs : List Value) (r : Int) (hr0 : -2147483648 ≤ r) (hr1 : r ≤ 2147483647) (hna : r < 0 ∨ 128 ≤ r) (w : World) (hown : w.ownsRowF B 5 1 v n xs) (hlen : n + 4 ≤ 140737488355328) (hBw : B ≤ w.heap.size) :
    Calls Tryd.prog 71 #[v, .int .i32 r] w fun e w' => ∃ v', e = .returned v' ∧ w'.ownsRowF B 5 1 v' (n + (Lib.runeCells r).length) (xs ++ Lib.runeCells r) ∧ ∃ o, (w.alloc o).grownBy w' v.ownBlock := Any.utf8_appendRuneNonASCII_row Tryd.lays278 (by kernel_rfl) B v n xs r hr0 hr1 hna w hown hlen hBw
def Tryd.lays242_ren : Go.Shelf.Ren := ⟨fun | 242 => 63 | 278 => 71 | n => n, fun | 37 => 46 | 21 => 21 | 51 => 73 | 4 => 4 | 5 => 5 | 46 => 66 | n => n, fun | n => n⟩
theorem Tryd.lays242 : Go.Proofs.Lays.n242 Tryd.prog Tryd.lays242_ren := {
  mixed := by kernel_rfl
  f242 := Tryd.func63.trans (congrArg some (by kernel_rfl))
  f278 := Tryd.func71.trans (congrArg some (by kernel_rfl))
  t4 := Tryd.underlying4
  a4 := Tryd.isAgg4
  z4 := Tryd.sizeOf4
  v4 := Tryd.zeroValue4
  t5 := Tryd.underlying5
  a5 := Tryd.isAgg5
  z5 := Tryd.sizeOf5
  v5 := Tryd.zeroValue5
  t21 := Tryd.underlying21
  a21 := Tryd.isAgg21
  z21 := Tryd.sizeOf21
  v21 := Tryd.zeroValue21
  t37 := Tryd.underlying46
  a37 := Tryd.isAgg46
  z37 := Tryd.sizeOf46
  v37 := Tryd.zeroValue46
  t46 := Tryd.underlying66
  a46 := Tryd.isAgg66
  z46 := Tryd.sizeOf66
  v46 := Tryd.zeroValue66
  t51 := Tryd.underlying73
  a51 := Tryd.isAgg73
  z51 := Tryd.sizeOf73
  v51 := Tryd.zeroValue73 }
open Go.RowKit in
/-- unicode/utf8.AppendRune: "AppendRune appends the UTF-8 encoding of r to the end of p and returns the extended buffer. If the rune is out of range, it appends the encoding of RuneError.": ONTO A ROW OF BYTES THAT THE CALL OWNS (its head frozen or not): EVERY int32: 'Lib.runeCells r' goes in behind what the row holds; the world: one new block (the bytes as the call's variadic argument), then what 'append' does to the row. (LAID: no walk: one application.) -/
theorem Tryd.utf8_AppendRune_row (B : Nat) (v : Value) (n : Nat) (xs : List Value) (r : Int) (hr0 : -2147483648 ≤ r) (hr1 : r ≤ 2147483647) (w : World) (hown : w.ownsRowF B 5 1 v n xs) (hlen : n + 4 ≤ 140737488355328) (hBw : B ≤ w.heap.size) :
    Calls Tryd.prog 63 #[v, .int .i32 r] w fun e w' => ∃ v', e = .returned v' ∧ w'.ownsRowF B 5 1 v' (n + (Lib.runeCells r).length) (xs ++ Lib.runeCells r) ∧ ∃ o, (w.alloc o).grownBy w' v.ownBlock := Any.utf8_AppendRune_row Tryd.lays242 (by kernel_rfl) B v n xs r hr0 hr1 w hown hlen hBw
open Go.RowKit in
/-- unicode/utf8.appendRuneNonASCII (what AppendRune calls for all but ASCII), ONTO A ROW OF BYTES THAT THE CALL OWNS: every int32 that is no ASCII rune: 'Lib.runeCells r' goes in behind what the row holds. (LAID: no walk: one application.) -/
theorem Tryd.utf8_appendRuneNonASCII_plain (B : Nat) (v : Value) (n : Nat) (xs : List Value) (r : Int) (hr0 : -2147483648 ≤ r) (hr1 : r ≤ 2147483647) (hna : r < 0 ∨ 128 ≤ r) (w : World) (hown : w.ownsRow B 5 1 v n xs) (hlen : n + 4 ≤ 140737488355328) (hBw : B ≤ w.heap.size) :
    Calls Tryd.prog 71 #[v, .int .i32 r] w fun e w' => ∃ v', e = .returned v' ∧ w'.ownsRow B 5 1 v' (n + (Lib.runeCells r).length) (xs ++ Lib.runeCells r) ∧ ∃ o, (w.alloc o).grownBy w' v.ownBlock := Any.utf8_appendRuneNonASCII_plain Tryd.lays278 (by kernel_rfl) B v n xs r hr0 hr1 hna w hown hlen hBw
open Go.RowKit in
/-- unicode/utf8.AppendRune: "AppendRune appends the UTF-8 encoding of r to the end of p and returns the extended buffer. If the rune is out of range, it appends the encoding of RuneError.": ONTO A ROW OF BYTES THAT THE CALL OWNS (its head frozen or not): EVERY int32: 'Lib.runeCells r' goes in behind what the row holds; the world: one new block (the bytes as the call's variadic argument), then what 'append' does to the row. (LAID: no walk: one application.) -/
theorem Tryd.utf8_AppendRune_plain (B : Nat) (v : Value) (n : Nat) (xs : List Value) (r : Int) (hr0 : -2147483648 ≤ r) (hr1 : r ≤ 2147483647) (w : World) (hown : w.ownsRow B 5 1 v n xs) (hlen : n + 4 ≤ 140737488355328) (hBw : B ≤ w.heap.size) :
    Calls Tryd.prog 63 #[v, .int .i32 r] w fun e w' => ∃ v', e = .returned v' ∧ w'.ownsRow B 5 1 v' (n + (Lib.runeCells r).length) (xs ++ Lib.runeCells r) ∧ ∃ o, (w.alloc o).grownBy w' v.ownBlock := Any.utf8_AppendRune_plain Tryd.lays242 (by kernel_rfl) B v n xs r hr0 hr1 w hown hlen hBw
open Go.RowKit in
/-- (*strings.Builder).grow (no doc but "grow copies the buffer to a new, larger buffer so that there are at least n bytes of capacity beyond len(b.buf)."): AT A BUILDER WITHOUT A BUFFER: a new row of whatever bytes for its buffer, none of them its own yet. Three draws. (LAID: no walk: one application.) -/
theorem Tryd.Builder_grow_fresh_cap (B b n : Nat) (w : World) (hB : B ≤ b) (hbk : w.heap[b]? = some (.cells #[.pointer (some ⟨b, 0, none⟩), .slice none 0 0] 51 (0, 0))) (hBw : B ≤ w.heap.size) (hn : n ≤ 281474976710656) :
    Calls Tryd.prog 62 #[.pointer (some ⟨b, 0, none⟩), .int .i64 n] w fun e w' => e = .returned (.tuple #[]) ∧ (Lib.BuilderAt 51 5 B b (.pointer (some ⟨b, 0, none⟩)) [] w' ∧ Below B w w') ∧ ∃ p cap, w'.cell? ⟨b, 1, none⟩ = some (.slice p 0 cap) ∧ n ≤ cap := Any.Builder_grow_fresh_cap Tryd.lays241 Tryd.Builder_Extra_241 B b n w hB hbk hBw hn
open Go.RowKit in
/-- (*strings.Builder).Grow AT A BUILDER THAT HAS NOT BEEN WRITTEN ('var b strings.Builder; b.Grow(n)'): "Grow grows b's capacity, if necessary, to guarantee space for another n bytes.": it holds no byte behind it as before it. (LAID: no walk: one application.) -/
theorem Tryd.Builder_Grow_fresh_cap (B b n : Nat) (w : World) (hB : B ≤ b) (hbk : w.heap[b]? = some (.cells #[.pointer none, .slice none 0 0] 51 (0, 0))) (hBw : B ≤ w.heap.size) (hn : n ≤ 281474976710656) :
    Calls Tryd.prog 47 #[.pointer (some ⟨b, 0, none⟩), .int .i64 n] w fun e w' => e = .returned (.tuple #[]) ∧ (Lib.BuilderAt 51 5 B b (.pointer (some ⟨b, 0, none⟩)) [] w' ∧ Below B w w') ∧ ∃ p cap, w'.cell? ⟨b, 1, none⟩ = some (.slice p 0 cap) ∧ n ≤ cap := Any.Builder_Grow_fresh_cap Tryd.lays165 Tryd.Builder_Extra_165 B b n w hB hbk hBw hn
def Tryd.lays199_ren : Go.Shelf.Ren := ⟨fun | 199 => 75 | 261 => 66 | 311 => 72 | 312 => 73 | n => n, fun | 21 => 21 | 4 => 4 | 51 => 73 | 141 => 75 | 0 => 0 | 196 => 83 | 193 => 80 | 3 => 3 | 198 => 86 | 49 => 84 | 194 => 81 | 201 => 89 | 226 => 94 | 46 => 66 | 227 => 95 | n => n, fun | 6 => 8 | n => n⟩
theorem Tryd.lays199 : Go.Proofs.Lays.n199 Tryd.prog Tryd.lays199_ren := {
  mixed := by kernel_rfl
  f199 := Tryd.func75.trans (congrArg some (by kernel_rfl))
  f261 := Tryd.func66.trans (congrArg some (by kernel_rfl))
  f311 := Tryd.func72.trans (congrArg some (by kernel_rfl))
  f312 := Tryd.func73.trans (congrArg some (by kernel_rfl))
  t0 := Tryd.underlying0
  a0 := Tryd.isAgg0
  z0 := Tryd.sizeOf0
  v0 := Tryd.zeroValue0
  t3 := Tryd.underlying3
  a3 := Tryd.isAgg3
  z3 := Tryd.sizeOf3
  v3 := Tryd.zeroValue3
  t4 := Tryd.underlying4
  a4 := Tryd.isAgg4
  z4 := Tryd.sizeOf4
  v4 := Tryd.zeroValue4
  t21 := Tryd.underlying21
  a21 := Tryd.isAgg21
  z21 := Tryd.sizeOf21
  v21 := Tryd.zeroValue21
  t46 := Tryd.underlying66
  a46 := Tryd.isAgg66
  z46 := Tryd.sizeOf66
  v46 := Tryd.zeroValue66
  t49 := Tryd.underlying84
  a49 := Tryd.isAgg84
  z49 := Tryd.sizeOf84
  v49 := Tryd.zeroValue84
  t51 := Tryd.underlying73
  a51 := Tryd.isAgg73
  z51 := Tryd.sizeOf73
  v51 := Tryd.zeroValue73
  t141 := Tryd.underlying75
  a141 := Tryd.isAgg75
  z141 := Tryd.sizeOf75
  v141 := Tryd.zeroValue75
  t193 := Tryd.underlying80
  a193 := Tryd.isAgg80
  z193 := Tryd.sizeOf80
  v193 := Tryd.zeroValue80
  t194 := Tryd.underlying81
  a194 := Tryd.isAgg81
  z194 := Tryd.sizeOf81
  v194 := Tryd.zeroValue81
  t196 := Tryd.underlying83
  a196 := Tryd.isAgg83
  z196 := Tryd.sizeOf83
  v196 := Tryd.zeroValue83
  t198 := Tryd.underlying86
  a198 := Tryd.isAgg86
  z198 := Tryd.sizeOf86
  v198 := Tryd.zeroValue86
  t201 := Tryd.underlying89
  a201 := Tryd.isAgg89
  z201 := Tryd.sizeOf89
  v201 := Tryd.zeroValue89
  t226 := Tryd.underlying94
  a226 := Tryd.isAgg94
  z226 := Tryd.sizeOf94
  v226 := Tryd.zeroValue94
  t227 := Tryd.underlying95
  a227 := Tryd.isAgg95
  z227 := Tryd.sizeOf95
  v227 := Tryd.zeroValue95
  g6 := by kernel_rfl }
open Go.RowKit Go.Lib in
theorem Tryd.unicode_IsSpace (r : Int) (w : World) (h0 : 0 ≤ r) (h : r ≤ 255) :
    Calls Tryd.prog 75 #[.int .i32 r] w fun e w' => e = .returned (.bool (Lib.isSpaceL r)) ∧ w' = w := Any.unicode_IsSpace Tryd.lays199 r w h0 h
def Tryd.lays203_ren : Go.Shelf.Ren := ⟨fun | 203 => 59 | 262 => 67 | 313 => 74 | 274 => 76 | 275 => 77 | n => n, fun | 21 => 21 | 4 => 4 | 3 => 3 | 162 => 93 | 203 => 91 | 160 => 96 | 46 => 66 | 0 => 0 | 208 => 102 | 51 => 73 | 206 => 100 | n => n, fun | 13 => 6 | n => n⟩
theorem Tryd.lays203 : Go.Proofs.Lays.n203 Tryd.prog Tryd.lays203_ren := {
  mixed := by kernel_rfl
  f203 := Tryd.func59.trans (congrArg some (by kernel_rfl))
  f262 := Tryd.func67.trans (congrArg some (by kernel_rfl))
  f274 := Tryd.func76.trans (congrArg some (by kernel_rfl))
  f275 := Tryd.func77.trans (congrArg some (by kernel_rfl))
  f313 := Tryd.func74.trans (congrArg some (by kernel_rfl))
  t0 := Tryd.underlying0
  a0 := Tryd.isAgg0
  z0 := Tryd.sizeOf0
  v0 := Tryd.zeroValue0
  t3 := Tryd.underlying3
  a3 := Tryd.isAgg3
  z3 := Tryd.sizeOf3
  v3 := Tryd.zeroValue3
  t4 := Tryd.underlying4
  a4 := Tryd.isAgg4
  z4 := Tryd.sizeOf4
  v4 := Tryd.zeroValue4
  t21 := Tryd.underlying21
  a21 := Tryd.isAgg21
  z21 := Tryd.sizeOf21
  v21 := Tryd.zeroValue21
  t46 := Tryd.underlying66
  a46 := Tryd.isAgg66
  z46 := Tryd.sizeOf66
  v46 := Tryd.zeroValue66
  t51 := Tryd.underlying73
  a51 := Tryd.isAgg73
  z51 := Tryd.sizeOf73
  v51 := Tryd.zeroValue73
  t160 := Tryd.underlying96
  a160 := Tryd.isAgg96
  z160 := Tryd.sizeOf96
  v160 := Tryd.zeroValue96
  t162 := Tryd.underlying93
  a162 := Tryd.isAgg93
  z162 := Tryd.sizeOf93
  v162 := Tryd.zeroValue93
  t203 := Tryd.underlying91
  a203 := Tryd.isAgg91
  z203 := Tryd.sizeOf91
  v203 := Tryd.zeroValue91
  t206 := Tryd.underlying100
  a206 := Tryd.isAgg100
  z206 := Tryd.sizeOf100
  v206 := Tryd.zeroValue100
  t208 := Tryd.underlying102
  a208 := Tryd.isAgg102
  z208 := Tryd.sizeOf102
  v208 := Tryd.zeroValue102
  g13 := by kernel_rfl }
open Go.RowKit Go.Lib in
theorem Tryd.unicode_ToUpper (r : Int) (w : World) (h : r ≤ 127) :
    Calls Tryd.prog 59 #[.int .i32 r] w fun e w' => e = .returned (.int .i32 (Lib.toUpperR r)) ∧ w' = w := Any.unicode_ToUpper Tryd.lays203 r w h
def Tryd.lays204_ren : Go.Shelf.Ren := ⟨fun | 204 => 57 | 262 => 67 | 313 => 74 | 274 => 76 | 275 => 77 | n => n, fun | 21 => 21 | 4 => 4 | 3 => 3 | 162 => 93 | 203 => 91 | 160 => 96 | 46 => 66 | 0 => 0 | 208 => 102 | 51 => 73 | 206 => 100 | n => n, fun | 13 => 6 | n => n⟩
theorem Tryd.lays204 : Go.Proofs.Lays.n204 Tryd.prog Tryd.lays204_ren := {
  mixed := by kernel_rfl
  f204 := Tryd.func57.trans (congrArg some (by kernel_rfl))
  f262 := Tryd.func67.trans (congrArg some (by kernel_rfl))
  f274 := Tryd.func76.trans (congrArg some (by kernel_rfl))
  f275 := Tryd.func77.trans (congrArg some (by kernel_rfl))
  f313 := Tryd.func74.trans (congrArg some (by kernel_rfl))
  t0 := Tryd.underlying0
  a0 := Tryd.isAgg0
  z0 := Tryd.sizeOf0
  v0 := Tryd.zeroValue0
  t3 := Tryd.underlying3
  a3 := Tryd.isAgg3
  z3 := Tryd.sizeOf3
  v3 := Tryd.zeroValue3
  t4 := Tryd.underlying4
  a4 := Tryd.isAgg4
  z4 := Tryd.sizeOf4
  v4 := Tryd.zeroValue4
  t21 := Tryd.underlying21
  a21 := Tryd.isAgg21
  z21 := Tryd.sizeOf21
  v21 := Tryd.zeroValue21
  t46 := Tryd.underlying66
  a46 := Tryd.isAgg66
  z46 := Tryd.sizeOf66
  v46 := Tryd.zeroValue66
  t51 := Tryd.underlying73
  a51 := Tryd.isAgg73
  z51 := Tryd.sizeOf73
  v51 := Tryd.zeroValue73
  t160 := Tryd.underlying96
  a160 := Tryd.isAgg96
  z160 := Tryd.sizeOf96
  v160 := Tryd.zeroValue96
  t162 := Tryd.underlying93
  a162 := Tryd.isAgg93
  z162 := Tryd.sizeOf93
  v162 := Tryd.zeroValue93
  t203 := Tryd.underlying91
  a203 := Tryd.isAgg91
  z203 := Tryd.sizeOf91
  v203 := Tryd.zeroValue91
  t206 := Tryd.underlying100
  a206 := Tryd.isAgg100
  z206 := Tryd.sizeOf100
  v206 := Tryd.zeroValue100
  t208 := Tryd.underlying102
  a208 := Tryd.isAgg102
  z208 := Tryd.sizeOf102
  v208 := Tryd.zeroValue102
  g13 := by kernel_rfl }
open Go.RowKit Go.Lib in
theorem Tryd.unicode_ToLower (r : Int) (w : World) (h : r ≤ 127) :
    Calls Tryd.prog 57 #[.int .i32 r] w fun e w' => e = .returned (.int .i32 (Lib.toLowerR r)) ∧ w' = w := Any.unicode_ToLower Tryd.lays204 r w h
def Tryd.lays200_ren : Go.Shelf.Ren := ⟨fun | 200 => 65 | 261 => 66 | 311 => 72 | 312 => 73 | n => n, fun | 21 => 21 | 4 => 4 | 51 => 73 | 5 => 5 | 119 => 62 | 0 => 0 | 141 => 75 | 196 => 83 | 193 => 80 | 3 => 3 | 198 => 86 | 49 => 84 | 194 => 81 | 201 => 89 | 226 => 94 | 46 => 66 | 227 => 95 | n => n, fun | 7 => 2 | 8 => 5 | n => n⟩
theorem Tryd.lays200 : Go.Proofs.Lays.n200 Tryd.prog Tryd.lays200_ren := {
  mixed := by kernel_rfl
  f200 := Tryd.func65.trans (congrArg some (by kernel_rfl))
  f261 := Tryd.func66.trans (congrArg some (by kernel_rfl))
  f311 := Tryd.func72.trans (congrArg some (by kernel_rfl))
  f312 := Tryd.func73.trans (congrArg some (by kernel_rfl))
  t0 := Tryd.underlying0
  a0 := Tryd.isAgg0
  z0 := Tryd.sizeOf0
  v0 := Tryd.zeroValue0
  t3 := Tryd.underlying3
  a3 := Tryd.isAgg3
  z3 := Tryd.sizeOf3
  v3 := Tryd.zeroValue3
  t4 := Tryd.underlying4
  a4 := Tryd.isAgg4
  z4 := Tryd.sizeOf4
  v4 := Tryd.zeroValue4
  t5 := Tryd.underlying5
  a5 := Tryd.isAgg5
  z5 := Tryd.sizeOf5
  v5 := Tryd.zeroValue5
  t21 := Tryd.underlying21
  a21 := Tryd.isAgg21
  z21 := Tryd.sizeOf21
  v21 := Tryd.zeroValue21
  t46 := Tryd.underlying66
  a46 := Tryd.isAgg66
  z46 := Tryd.sizeOf66
  v46 := Tryd.zeroValue66
  t49 := Tryd.underlying84
  a49 := Tryd.isAgg84
  z49 := Tryd.sizeOf84
  v49 := Tryd.zeroValue84
  t51 := Tryd.underlying73
  a51 := Tryd.isAgg73
  z51 := Tryd.sizeOf73
  v51 := Tryd.zeroValue73
  t119 := Tryd.underlying62
  a119 := Tryd.isAgg62
  z119 := Tryd.sizeOf62
  t141 := Tryd.underlying75
  a141 := Tryd.isAgg75
  z141 := Tryd.sizeOf75
  v141 := Tryd.zeroValue75
  t193 := Tryd.underlying80
  a193 := Tryd.isAgg80
  z193 := Tryd.sizeOf80
  v193 := Tryd.zeroValue80
  t194 := Tryd.underlying81
  a194 := Tryd.isAgg81
  z194 := Tryd.sizeOf81
  v194 := Tryd.zeroValue81
  t196 := Tryd.underlying83
  a196 := Tryd.isAgg83
  z196 := Tryd.sizeOf83
  v196 := Tryd.zeroValue83
  t198 := Tryd.underlying86
  a198 := Tryd.isAgg86
  z198 := Tryd.sizeOf86
  v198 := Tryd.zeroValue86
  t201 := Tryd.underlying89
  a201 := Tryd.isAgg89
  z201 := Tryd.sizeOf89
  v201 := Tryd.zeroValue89
  t226 := Tryd.underlying94
  a226 := Tryd.isAgg94
  z226 := Tryd.sizeOf94
  v226 := Tryd.zeroValue94
  t227 := Tryd.underlying95
  a227 := Tryd.isAgg95
  z227 := Tryd.sizeOf95
  v227 := Tryd.zeroValue95
  g7 := by kernel_rfl
  g8 := by kernel_rfl }
open Go.RowKit Go.Lib in
theorem Tryd.unicode_IsLetter (c : Nat) (w : World) (hc : c < 256) (htab : Lib.TabIs Tryd.prog w "unicode.properties" .u8 Lib.propertiesTab) :
    Calls Tryd.prog 65 #[.int .i32 c] w fun e w' => e = .returned (.bool (Lib.isLetterL c)) ∧ w' = w := Any.unicode_IsLetter Tryd.lays200 (by kernel_rfl) c w hc htab
def Tryd.lays201_ren : Go.Shelf.Ren := ⟨fun | 201 => 56 | 261 => 66 | 311 => 72 | 312 => 73 | n => n, fun | 21 => 21 | 4 => 4 | 51 => 73 | 5 => 5 | 119 => 62 | 0 => 0 | 141 => 75 | 196 => 83 | 193 => 80 | 3 => 3 | 198 => 86 | 49 => 84 | 194 => 81 | 201 => 89 | 226 => 94 | 46 => 66 | 227 => 95 | n => n, fun | 7 => 2 | 9 => 3 | n => n⟩
theorem Tryd.lays201 : Go.Proofs.Lays.n201 Tryd.prog Tryd.lays201_ren := {
  mixed := by kernel_rfl
  f201 := Tryd.func56.trans (congrArg some (by kernel_rfl))
  f261 := Tryd.func66.trans (congrArg some (by kernel_rfl))
  f311 := Tryd.func72.trans (congrArg some (by kernel_rfl))
  f312 := Tryd.func73.trans (congrArg some (by kernel_rfl))
  t0 := Tryd.underlying0
  a0 := Tryd.isAgg0
  z0 := Tryd.sizeOf0
  v0 := Tryd.zeroValue0
  t3 := Tryd.underlying3
  a3 := Tryd.isAgg3
  z3 := Tryd.sizeOf3
  v3 := Tryd.zeroValue3
  t4 := Tryd.underlying4
  a4 := Tryd.isAgg4
  z4 := Tryd.sizeOf4
  v4 := Tryd.zeroValue4
  t5 := Tryd.underlying5
  a5 := Tryd.isAgg5
  z5 := Tryd.sizeOf5
  v5 := Tryd.zeroValue5
  t21 := Tryd.underlying21
  a21 := Tryd.isAgg21
  z21 := Tryd.sizeOf21
  v21 := Tryd.zeroValue21
  t46 := Tryd.underlying66
  a46 := Tryd.isAgg66
  z46 := Tryd.sizeOf66
  v46 := Tryd.zeroValue66
  t49 := Tryd.underlying84
  a49 := Tryd.isAgg84
  z49 := Tryd.sizeOf84
  v49 := Tryd.zeroValue84
  t51 := Tryd.underlying73
  a51 := Tryd.isAgg73
  z51 := Tryd.sizeOf73
  v51 := Tryd.zeroValue73
  t119 := Tryd.underlying62
  a119 := Tryd.isAgg62
  z119 := Tryd.sizeOf62
  t141 := Tryd.underlying75
  a141 := Tryd.isAgg75
  z141 := Tryd.sizeOf75
  v141 := Tryd.zeroValue75
  t193 := Tryd.underlying80
  a193 := Tryd.isAgg80
  z193 := Tryd.sizeOf80
  v193 := Tryd.zeroValue80
  t194 := Tryd.underlying81
  a194 := Tryd.isAgg81
  z194 := Tryd.sizeOf81
  v194 := Tryd.zeroValue81
  t196 := Tryd.underlying83
  a196 := Tryd.isAgg83
  z196 := Tryd.sizeOf83
  v196 := Tryd.zeroValue83
  t198 := Tryd.underlying86
  a198 := Tryd.isAgg86
  z198 := Tryd.sizeOf86
  v198 := Tryd.zeroValue86
  t201 := Tryd.underlying89
  a201 := Tryd.isAgg89
  z201 := Tryd.sizeOf89
  v201 := Tryd.zeroValue89
  t226 := Tryd.underlying94
  a226 := Tryd.isAgg94
  z226 := Tryd.sizeOf94
  v226 := Tryd.zeroValue94
  t227 := Tryd.underlying95
  a227 := Tryd.isAgg95
  z227 := Tryd.sizeOf95
  v227 := Tryd.zeroValue95
  g7 := by kernel_rfl
  g9 := by kernel_rfl }
open Go.RowKit Go.Lib in
theorem Tryd.unicode_IsUpper (c : Nat) (w : World) (hc : c < 256) (htab : Lib.TabIs Tryd.prog w "unicode.properties" .u8 Lib.propertiesTab) :
    Calls Tryd.prog 56 #[.int .i32 c] w fun e w' => e = .returned (.bool (Lib.isUpperL c)) ∧ w' = w := Any.unicode_IsUpper Tryd.lays201 (by kernel_rfl) c w hc htab
def Tryd.lays202_ren : Go.Shelf.Ren := ⟨fun | 202 => 58 | 261 => 66 | 311 => 72 | 312 => 73 | n => n, fun | 21 => 21 | 4 => 4 | 51 => 73 | 5 => 5 | 119 => 62 | 0 => 0 | 141 => 75 | 196 => 83 | 193 => 80 | 3 => 3 | 198 => 86 | 49 => 84 | 194 => 81 | 201 => 89 | 226 => 94 | 46 => 66 | 227 => 95 | n => n, fun | 7 => 2 | 10 => 4 | n => n⟩
theorem Tryd.lays202 : Go.Proofs.Lays.n202 Tryd.prog Tryd.lays202_ren := {
  mixed := by kernel_rfl
  f202 := Tryd.func58.trans (congrArg some (by kernel_rfl))
  f261 := Tryd.func66.trans (congrArg some (by kernel_rfl))
  f311 := Tryd.func72.trans (congrArg some (by kernel_rfl))
  f312 := Tryd.func73.trans (congrArg some (by kernel_rfl))
  t0 := Tryd.underlying0
  a0 := Tryd.isAgg0
  z0 := Tryd.sizeOf0
  v0 := Tryd.zeroValue0
  t3 := Tryd.underlying3
  a3 := Tryd.isAgg3
  z3 := Tryd.sizeOf3
  v3 := Tryd.zeroValue3
  t4 := Tryd.underlying4
  a4 := Tryd.isAgg4
  z4 := Tryd.sizeOf4
  v4 := Tryd.zeroValue4
  t5 := Tryd.underlying5
  a5 := Tryd.isAgg5
  z5 := Tryd.sizeOf5
  v5 := Tryd.zeroValue5
  t21 := Tryd.underlying21
  a21 := Tryd.isAgg21
  z21 := Tryd.sizeOf21
  v21 := Tryd.zeroValue21
  t46 := Tryd.underlying66
  a46 := Tryd.isAgg66
  z46 := Tryd.sizeOf66
  v46 := Tryd.zeroValue66
  t49 := Tryd.underlying84
  a49 := Tryd.isAgg84
  z49 := Tryd.sizeOf84
  v49 := Tryd.zeroValue84
  t51 := Tryd.underlying73
  a51 := Tryd.isAgg73
  z51 := Tryd.sizeOf73
  v51 := Tryd.zeroValue73
  t119 := Tryd.underlying62
  a119 := Tryd.isAgg62
  z119 := Tryd.sizeOf62
  t141 := Tryd.underlying75
  a141 := Tryd.isAgg75
  z141 := Tryd.sizeOf75
  v141 := Tryd.zeroValue75
  t193 := Tryd.underlying80
  a193 := Tryd.isAgg80
  z193 := Tryd.sizeOf80
  v193 := Tryd.zeroValue80
  t194 := Tryd.underlying81
  a194 := Tryd.isAgg81
  z194 := Tryd.sizeOf81
  v194 := Tryd.zeroValue81
  t196 := Tryd.underlying83
  a196 := Tryd.isAgg83
  z196 := Tryd.sizeOf83
  v196 := Tryd.zeroValue83
  t198 := Tryd.underlying86
  a198 := Tryd.isAgg86
  z198 := Tryd.sizeOf86
  v198 := Tryd.zeroValue86
  t201 := Tryd.underlying89
  a201 := Tryd.isAgg89
  z201 := Tryd.sizeOf89
  v201 := Tryd.zeroValue89
  t226 := Tryd.underlying94
  a226 := Tryd.isAgg94
  z226 := Tryd.sizeOf94
  v226 := Tryd.zeroValue94
  t227 := Tryd.underlying95
  a227 := Tryd.isAgg95
  z227 := Tryd.sizeOf95
  v227 := Tryd.zeroValue95
  g7 := by kernel_rfl
  g10 := by kernel_rfl }
open Go.RowKit Go.Lib in
theorem Tryd.unicode_IsLower (c : Nat) (w : World) (hc : c < 256) (htab : Lib.TabIs Tryd.prog w "unicode.properties" .u8 Lib.propertiesTab) :
    Calls Tryd.prog 58 #[.int .i32 c] w fun e w' => e = .returned (.bool (Lib.isLowerL c)) ∧ w' = w := Any.unicode_IsLower Tryd.lays202 (by kernel_rfl) c w hc htab
def Tryd.laysM200_ren : Go.Shelf.Ren := ⟨fun | 200 => 65 | 261 => 66 | 311 => 72 | 312 => 73 | n => n, fun | 21 => 21 | 4 => 4 | 51 => 73 | 5 => 5 | 119 => 62 | 0 => 0 | 141 => 75 | 196 => 83 | 193 => 80 | 3 => 3 | 198 => 86 | 49 => 84 | 194 => 81 | 201 => 89 | 226 => 94 | 46 => 66 | 227 => 95 | n => n, fun | 7 => 2 | 8 => 5 | n => n⟩
theorem Tryd.laysM200 : Go.Proofs.LaysM.n200 Tryd.prog Tryd.laysM200_ren := {
  mixed := by kernel_rfl
  f200 := Tryd.func65.trans (congrArg some (by kernel_rfl))
  f261 := Tryd.func66.trans (congrArg some (by kernel_rfl))
  f311 := Tryd.func72.trans (congrArg some (by kernel_rfl))
  f312 := Tryd.func73.trans (congrArg some (by kernel_rfl))
  t0 := Tryd.underlying0
  a0 := Tryd.isAgg0
  z0 := Tryd.sizeOf0
  v0 := Tryd.zeroValue0
  t3 := Tryd.underlying3
  a3 := Tryd.isAgg3
  z3 := Tryd.sizeOf3
  v3 := Tryd.zeroValue3
  t4 := Tryd.underlying4
  a4 := Tryd.isAgg4
  z4 := Tryd.sizeOf4
  v4 := Tryd.zeroValue4
  t5 := Tryd.underlying5
  a5 := Tryd.isAgg5
  z5 := Tryd.sizeOf5
  v5 := Tryd.zeroValue5
  t21 := Tryd.underlying21
  a21 := Tryd.isAgg21
  z21 := Tryd.sizeOf21
  v21 := Tryd.zeroValue21
  t46 := Tryd.underlying66
  a46 := Tryd.isAgg66
  z46 := Tryd.sizeOf66
  v46 := Tryd.zeroValue66
  t49 := Tryd.underlying84
  a49 := Tryd.isAgg84
  z49 := Tryd.sizeOf84
  v49 := Tryd.zeroValue84
  t51 := Tryd.underlying73
  a51 := Tryd.isAgg73
  z51 := Tryd.sizeOf73
  v51 := Tryd.zeroValue73
  t119 := Tryd.underlying62
  a119 := Tryd.isAgg62
  z119 := Tryd.sizeOf62
  t141 := Tryd.underlying75
  a141 := Tryd.isAgg75
  z141 := Tryd.sizeOf75
  v141 := Tryd.zeroValue75
  t193 := Tryd.underlying80
  a193 := Tryd.isAgg80
  z193 := Tryd.sizeOf80
  v193 := Tryd.zeroValue80
  t194 := Tryd.underlying81
  a194 := Tryd.isAgg81
  z194 := Tryd.sizeOf81
  v194 := Tryd.zeroValue81
  t196 := Tryd.underlying83
  a196 := Tryd.isAgg83
  z196 := Tryd.sizeOf83
  v196 := Tryd.zeroValue83
  t198 := Tryd.underlying86
  a198 := Tryd.isAgg86
  z198 := Tryd.sizeOf86
  v198 := Tryd.zeroValue86
  t201 := Tryd.underlying89
  a201 := Tryd.isAgg89
  z201 := Tryd.sizeOf89
  v201 := Tryd.zeroValue89
  t226 := Tryd.underlying94
  a226 := Tryd.isAgg94
  z226 := Tryd.sizeOf94
  v226 := Tryd.zeroValue94
  t227 := Tryd.underlying95
  a227 := Tryd.isAgg95
  z227 := Tryd.sizeOf95
  v227 := Tryd.zeroValue95
  g7 := by kernel_rfl
  g8 := by kernel_rfl
  i0 := by kernel_rfl
  i3 := by kernel_rfl
  i4 := by kernel_rfl
  i5 := by kernel_rfl
  i21 := by kernel_rfl
  i46 := by kernel_rfl
  i49 := by kernel_rfl
  i51 := by kernel_rfl
  i141 := by kernel_rfl
  i193 := by kernel_rfl
  i194 := by kernel_rfl
  i196 := by kernel_rfl
  i198 := by kernel_rfl
  i201 := by kernel_rfl
  i226 := by kernel_rfl
  i227 := by kernel_rfl
  m7 := by kernel_rfl
  m8 := by kernel_rfl }
open Go.RowKit Go.Lib in
theorem Tryd.unicode_IsLetter_laid (c : Nat) (w : World) (hc : c < 256) (htab : Lib.TabIs Tryd.prog w "unicode.properties" .u8 Lib.propertiesTab) :
    Calls Tryd.prog 65 #[.int .i32 c] w fun e w' => e = .returned (.bool (Lib.isLetterL c)) ∧ w' = w := Any.unicode_IsLetter_laid Tryd.laysM200 c w hc htab
def Tryd.laysM201_ren : Go.Shelf.Ren := ⟨fun | 201 => 56 | 261 => 66 | 311 => 72 | 312 => 73 | n => n, fun | 21 => 21 | 4 => 4 | 51 => 73 | 5 => 5 | 119 => 62 | 0 => 0 | 141 => 75 | 196 => 83 | 193 => 80 | 3 => 3 | 198 => 86 | 49 => 84 | 194 => 81 | 201 => 89 | 226 => 94 | 46 => 66 | 227 => 95 | n => n, fun | 7 => 2 | 9 => 3 | n => n⟩
theorem Tryd.laysM201 : Go.Proofs.LaysM.n201 Tryd.prog Tryd.laysM201_ren := {
  mixed := by kernel_rfl
  f201 := Tryd.func56.trans (congrArg some (by kernel_rfl))
  f261 := Tryd.func66.trans (congrArg some (by kernel_rfl))
  f311 := Tryd.func72.trans (congrArg some (by kernel_rfl))
  f312 := Tryd.func73.trans (congrArg some (by kernel_rfl))
  t0 := Tryd.underlying0
  a0 := Tryd.isAgg0
  z0 := Tryd.sizeOf0
  v0 := Tryd.zeroValue0
  t3 := Tryd.underlying3
  a3 := Tryd.isAgg3
  z3 := Tryd.sizeOf3
  v3 := Tryd.zeroValue3
  t4 := Tryd.underlying4
  a4 := Tryd.isAgg4
  z4 := Tryd.sizeOf4
  v4 := Tryd.zeroValue4
  t5 := Tryd.underlying5
  a5 := Tryd.isAgg5
  z5 := Tryd.sizeOf5
  v5 := Tryd.zeroValue5
  t21 := Tryd.underlying21
  a21 := Tryd.isAgg21
  z21 := Tryd.sizeOf21
  v21 := Tryd.zeroValue21
  t46 := Tryd.underlying66
  a46 := Tryd.isAgg66
  z46 := Tryd.sizeOf66
  v46 := Tryd.zeroValue66
  t49 := Tryd.underlying84
  a49 := Tryd.isAgg84
  z49 := Tryd.sizeOf84
  v49 := Tryd.zeroValue84
  t51 := Tryd.underlying73
  a51 := Tryd.isAgg73
  z51 := Tryd.sizeOf73
  v51 := Tryd.zeroValue73
  t119 := Tryd.underlying62
  a119 := Tryd.isAgg62
  z119 := Tryd.sizeOf62
  t141 := Tryd.underlying75
  a141 := Tryd.isAgg75
  z141 := Tryd.sizeOf75
  v141 := Tryd.zeroValue75
  t193 := Tryd.underlying80
  a193 := Tryd.isAgg80
  z193 := Tryd.sizeOf80
  v193 := Tryd.zeroValue80
  t194 := Tryd.underlying81
  a194 := Tryd.isAgg81
  z194 := Tryd.sizeOf81
  v194 := Tryd.zeroValue81
  t196 := Tryd.underlying83
  a196 := Tryd.isAgg83
  z196 := Tryd.sizeOf83
  v196 := Tryd.zeroValue83
  t198 := Tryd.underlying86
  a198 := Tryd.isAgg86
  z198 := Tryd.sizeOf86
  v198 := Tryd.zeroValue86
  t201 := Tryd.underlying89
  a201 := Tryd.isAgg89
  z201 := Tryd.sizeOf89
  v201 := Tryd.zeroValue89
  t226 := Tryd.underlying94
  a226 := Tryd.isAgg94
  z226 := Tryd.sizeOf94
  v226 := Tryd.zeroValue94
  t227 := Tryd.underlying95
  a227 := Tryd.isAgg95
  z227 := Tryd.sizeOf95
  v227 := Tryd.zeroValue95
  g7 := by kernel_rfl
  g9 := by kernel_rfl
  i0 := by kernel_rfl
  i3 := by kernel_rfl
  i4 := by kernel_rfl
  i5 := by kernel_rfl
  i21 := by kernel_rfl
  i46 := by kernel_rfl
  i49 := by kernel_rfl
  i51 := by kernel_rfl
  i141 := by kernel_rfl
  i193 := by kernel_rfl
  i194 := by kernel_rfl
  i196 := by kernel_rfl
  i198 := by kernel_rfl
  i201 := by kernel_rfl
  i226 := by kernel_rfl
  i227 := by kernel_rfl
  m7 := by kernel_rfl
  m9 := by kernel_rfl }
open Go.RowKit Go.Lib in
theorem Tryd.unicode_IsUpper_laid (c : Nat) (w : World) (hc : c < 256) (htab : Lib.TabIs Tryd.prog w "unicode.properties" .u8 Lib.propertiesTab) :
    Calls Tryd.prog 56 #[.int .i32 c] w fun e w' => e = .returned (.bool (Lib.isUpperL c)) ∧ w' = w := Any.unicode_IsUpper_laid Tryd.laysM201 c w hc htab
def Tryd.laysM202_ren : Go.Shelf.Ren := ⟨fun | 202 => 58 | 261 => 66 | 311 => 72 | 312 => 73 | n => n, fun | 21 => 21 | 4 => 4 | 51 => 73 | 5 => 5 | 119 => 62 | 0 => 0 | 141 => 75 | 196 => 83 | 193 => 80 | 3 => 3 | 198 => 86 | 49 => 84 | 194 => 81 | 201 => 89 | 226 => 94 | 46 => 66 | 227 => 95 | n => n, fun | 7 => 2 | 10 => 4 | n => n⟩
theorem Tryd.laysM202 : Go.Proofs.LaysM.n202 Tryd.prog Tryd.laysM202_ren := {
  mixed := by kernel_rfl
  f202 := Tryd.func58.trans (congrArg some (by kernel_rfl))
  f261 := Tryd.func66.trans (congrArg some (by kernel_rfl))
  f311 := Tryd.func72.trans (congrArg some (by kernel_rfl))
  f312 := Tryd.func73.trans (congrArg some (by kernel_rfl))
  t0 := Tryd.underlying0
  a0 := Tryd.isAgg0
  z0 := Tryd.sizeOf0
  v0 := Tryd.zeroValue0
  t3 := Tryd.underlying3
  a3 := Tryd.isAgg3
  z3 := Tryd.sizeOf3
  v3 := Tryd.zeroValue3
  t4 := Tryd.underlying4
  a4 := Tryd.isAgg4
  z4 := Tryd.sizeOf4
  v4 := Tryd.zeroValue4
  t5 := Tryd.underlying5
  a5 := Tryd.isAgg5
  z5 := Tryd.sizeOf5
  v5 := Tryd.zeroValue5
  t21 := Tryd.underlying21
  a21 := Tryd.isAgg21
  z21 := Tryd.sizeOf21
  v21 := Tryd.zeroValue21
  t46 := Tryd.underlying66
  a46 := Tryd.isAgg66
  z46 := Tryd.sizeOf66
  v46 := Tryd.zeroValue66
  t49 := Tryd.underlying84
  a49 := Tryd.isAgg84
  z49 := Tryd.sizeOf84
  v49 := Tryd.zeroValue84
  t51 := Tryd.underlying73
  a51 := Tryd.isAgg73
  z51 := Tryd.sizeOf73
  v51 := Tryd.zeroValue73
  t119 := Tryd.underlying62
  a119 := Tryd.isAgg62
  z119 := Tryd.sizeOf62
  t141 := Tryd.underlying75
  a141 := Tryd.isAgg75
  z141 := Tryd.sizeOf75
  v141 := Tryd.zeroValue75
  t193 := Tryd.underlying80
  a193 := Tryd.isAgg80
  z193 := Tryd.sizeOf80
  v193 := Tryd.zeroValue80
  t194 := Tryd.underlying81
  a194 := Tryd.isAgg81
  z194 := Tryd.sizeOf81
  v194 := Tryd.zeroValue81
  t196 := Tryd.underlying83
  a196 := Tryd.isAgg83
  z196 := Tryd.sizeOf83
  v196 := Tryd.zeroValue83
  t198 := Tryd.underlying86
  a198 := Tryd.isAgg86
  z198 := Tryd.sizeOf86
  v198 := Tryd.zeroValue86
  t201 := Tryd.underlying89
  a201 := Tryd.isAgg89
  z201 := Tryd.sizeOf89
  v201 := Tryd.zeroValue89
  t226 := Tryd.underlying94
  a226 := Tryd.isAgg94
  z226 := Tryd.sizeOf94
  v226 := Tryd.zeroValue94
  t227 := Tryd.underlying95
  a227 := Tryd.isAgg95
  z227 := Tryd.sizeOf95
  v227 := Tryd.zeroValue95
  g7 := by kernel_rfl
  g10 := by kernel_rfl
  i0 := by kernel_rfl
  i3 := by kernel_rfl
  i4 := by kernel_rfl
  i5 := by kernel_rfl
  i21 := by kernel_rfl
  i46 := by kernel_rfl
  i49 := by kernel_rfl
  i51 := by kernel_rfl
  i141 := by kernel_rfl
  i193 := by kernel_rfl
  i194 := by kernel_rfl
  i196 := by kernel_rfl
  i198 := by kernel_rfl
  i201 := by kernel_rfl
  i226 := by kernel_rfl
  i227 := by kernel_rfl
  m7 := by kernel_rfl
  m10 := by kernel_rfl }
open Go.RowKit Go.Lib in
theorem Tryd.unicode_IsLower_laid (c : Nat) (w : World) (hc : c < 256) (htab : Lib.TabIs Tryd.prog w "unicode.properties" .u8 Lib.propertiesTab) :
    Calls Tryd.prog 58 #[.int .i32 c] w fun e w' => e = .returned (.bool (Lib.isLowerL c)) ∧ w' = w := Any.unicode_IsLower_laid Tryd.laysM202 c w hc htab
def Tryd.lays197_ren : Go.Shelf.Ren := ⟨fun | 197 => 51 | 260 => 64 | n => n, fun | 9 => 9 | 21 => 21 | 3 => 3 | 4 => 4 | 5 => 5 | 105 => 59 | 119 => 62 | 0 => 0 | 46 => 66 | 139 => 65 | 138 => 64 | n => n, fun | 3 => 0 | 4 => 1 | n => n⟩
theorem Tryd.lays197 : Go.Proofs.Lays.n197 Tryd.prog Tryd.lays197_ren := {
  mixed := by kernel_rfl
  f197 := Tryd.func51.trans (congrArg some (by kernel_rfl))
  f260 := Tryd.func64.trans (congrArg some (by kernel_rfl))
  t0 := Tryd.underlying0
  a0 := Tryd.isAgg0
  z0 := Tryd.sizeOf0
  v0 := Tryd.zeroValue0
  t3 := Tryd.underlying3
  a3 := Tryd.isAgg3
  z3 := Tryd.sizeOf3
  v3 := Tryd.zeroValue3
  t4 := Tryd.underlying4
  a4 := Tryd.isAgg4
  z4 := Tryd.sizeOf4
  v4 := Tryd.zeroValue4
  t5 := Tryd.underlying5
  a5 := Tryd.isAgg5
  z5 := Tryd.sizeOf5
  v5 := Tryd.zeroValue5
  t9 := Tryd.underlying9
  a9 := Tryd.isAgg9
  z9 := Tryd.sizeOf9
  v9 := Tryd.zeroValue9
  t21 := Tryd.underlying21
  a21 := Tryd.isAgg21
  z21 := Tryd.sizeOf21
  v21 := Tryd.zeroValue21
  t46 := Tryd.underlying66
  a46 := Tryd.isAgg66
  z46 := Tryd.sizeOf66
  v46 := Tryd.zeroValue66
  t105 := Tryd.underlying59
  a105 := Tryd.isAgg59
  z105 := Tryd.sizeOf59
  v105 := Tryd.zeroValue59
  t119 := Tryd.underlying62
  a119 := Tryd.isAgg62
  z119 := Tryd.sizeOf62
  t138 := Tryd.underlying64
  a138 := Tryd.isAgg64
  z138 := Tryd.sizeOf64
  v138 := Tryd.zeroValue64
  t139 := Tryd.underlying65
  a139 := Tryd.isAgg65
  z139 := Tryd.sizeOf65
  v139 := Tryd.zeroValue65
  g3 := by kernel_rfl
  g4 := by kernel_rfl }
open Go.RowKit Go.Lib in
/-- unicode/utf8.DecodeRuneInString: "DecodeRuneInString is like DecodeRune but its input is a string.": ("DecodeRune unpacks the first UTF-8 encoding in p and returns the rune and its width in bytes."): WHERE s BEGINS WITH AN ASCII BYTE x: (x, 1). (LAID: no walk: one application.) -/
theorem Tryd.utf8_DecodeRuneInString_ascii (s : ByteArray) (x : UInt8) (w : World) (h0 : s.data.toList[0]? = some x) (hx : x.toNat < 128) :
    Calls Tryd.prog 51 #[.string s] w fun e w' => e = .returned (.tuple #[.int .i32 x.toNat, .int .i64 1]) ∧ w' = w := Any.utf8_DecodeRuneInString_ascii Tryd.lays197 s x w h0 hx
def Tryd.lays260_ren : Go.Shelf.Ren := ⟨fun | 260 => 64 | n => n, fun | 9 => 9 | 21 => 21 | 3 => 3 | 4 => 4 | 5 => 5 | 119 => 62 | 0 => 0 | 46 => 66 | 139 => 65 | 138 => 64 | n => n, fun | 3 => 0 | 4 => 1 | n => n⟩
theorem Tryd.lays260 : Go.Proofs.Lays.n260 Tryd.prog Tryd.lays260_ren := {
  mixed := by kernel_rfl
  f260 := Tryd.func64.trans (congrArg some (by kernel_rfl))
  t0 := Tryd.underlying0
  a0 := Tryd.isAgg0
  z0 := Tryd.sizeOf0
  v0 := Tryd.zeroValue0
  t3 := Tryd.underlying3
  a3 := Tryd.isAgg3
  z3 := Tryd.sizeOf3
  v3 := Tryd.zeroValue3
  t4 := Tryd.underlying4
  a4 := Tryd.isAgg4
  z4 := Tryd.sizeOf4
  v4 := Tryd.zeroValue4
  t5 := Tryd.underlying5
  a5 := Tryd.isAgg5
  z5 := Tryd.sizeOf5
  v5 := Tryd.zeroValue5
  t9 := Tryd.underlying9
  a9 := Tryd.isAgg9
  z9 := Tryd.sizeOf9
  v9 := Tryd.zeroValue9
  t21 := Tryd.underlying21
  a21 := Tryd.isAgg21
  z21 := Tryd.sizeOf21
  v21 := Tryd.zeroValue21
  t46 := Tryd.underlying66
  a46 := Tryd.isAgg66
  z46 := Tryd.sizeOf66
  v46 := Tryd.zeroValue66
  t119 := Tryd.underlying62
  a119 := Tryd.isAgg62
  z119 := Tryd.sizeOf62
  t138 := Tryd.underlying64
  a138 := Tryd.isAgg64
  z138 := Tryd.sizeOf64
  v138 := Tryd.zeroValue64
  t139 := Tryd.underlying65
  a139 := Tryd.isAgg65
  z139 := Tryd.sizeOf65
  v139 := Tryd.zeroValue65
  g3 := by kernel_rfl
  g4 := by kernel_rfl }
open Go.RowKit Go.Lib in
theorem Tryd.utf8_decodeRuneInStringSlow (s : ByteArray) (w : World) (hT : Lib.Utf8Tabs 0 1 w) :
    Calls Tryd.prog 64 #[.string s] w fun e w' => e = .returned (.tuple #[.int .i32 (Lib.decodeGo s).1, .int .i64 (Lib.decodeGo s).2]) ∧ Below w.heap.size w w' := Any.utf8_decodeRuneInStringSlow Tryd.lays260 s w hT
open Go.RowKit Go.Lib in
/-- **unicode/utf8.DecodeRuneInString AT EVERY STRING.** (LAID: no walk: one application.) -/
theorem Tryd.utf8_DecodeRuneInString (s : ByteArray) (w : World) (hT : Lib.Utf8Tabs 0 1 w) :
    Calls Tryd.prog 51 #[.string s] w fun e w' => e = .returned (.tuple #[.int .i32 (Lib.decodeGo s).1, .int .i64 (Lib.decodeGo s).2]) ∧ Below w.heap.size w w' := Any.utf8_DecodeRuneInString Tryd.lays197 s w hT
def Tryd.lays311_ren : Go.Shelf.Ren := ⟨fun | 311 => 72 | n => n, fun | 193 => 80 | 49 => 84 | 4 => 4 | 3 => 3 | 0 => 0 | 226 => 94 | 198 => 86 | 46 => 66 | n => n, fun | n => n⟩
theorem Tryd.lays311 : Go.Proofs.Lays.n311 Tryd.prog Tryd.lays311_ren := {
  mixed := by kernel_rfl
  f311 := Tryd.func72.trans (congrArg some (by kernel_rfl))
  t0 := Tryd.underlying0
  a0 := Tryd.isAgg0
  z0 := Tryd.sizeOf0
  v0 := Tryd.zeroValue0
  t3 := Tryd.underlying3
  a3 := Tryd.isAgg3
  z3 := Tryd.sizeOf3
  v3 := Tryd.zeroValue3
  t4 := Tryd.underlying4
  a4 := Tryd.isAgg4
  z4 := Tryd.sizeOf4
  v4 := Tryd.zeroValue4
  t46 := Tryd.underlying66
  a46 := Tryd.isAgg66
  z46 := Tryd.sizeOf66
  v46 := Tryd.zeroValue66
  t49 := Tryd.underlying84
  a49 := Tryd.isAgg84
  z49 := Tryd.sizeOf84
  v49 := Tryd.zeroValue84
  t193 := Tryd.underlying80
  a193 := Tryd.isAgg80
  z193 := Tryd.sizeOf80
  v193 := Tryd.zeroValue80
  t198 := Tryd.underlying86
  a198 := Tryd.isAgg86
  z198 := Tryd.sizeOf86
  v198 := Tryd.zeroValue86
  t226 := Tryd.underlying94
  a226 := Tryd.isAgg94
  z226 := Tryd.sizeOf94
  v226 := Tryd.zeroValue94 }
open Go.RowKit Go.Lib in
theorem Tryd.unicode_is16_white (R oR : Nat) (z : Nat) (w : World) (hz : z < 65536) (hz0 : 255 < z) (c6 : w.cell? ⟨R, oR + 6, none⟩ = some (.int .u16 160)) (c7 : w.cell? ⟨R, oR + 7, none⟩ = some (.int .u16 5760)) (c8 : w.cell? ⟨R, oR + 8, none⟩ = some (.int .u16 5600)) (c9 : w.cell? ⟨R, oR + 9, none⟩ = some (.int .u16 8192)) (c10 : w.cell? ⟨R, oR + 10, none⟩ = some (.int .u16 8202)) (c11 : w.cell? ⟨R, oR + 11, none⟩ = some (.int .u16 1)) (c12 : w.cell? ⟨R, oR + 12, none⟩ = some (.int .u16 8232)) (c13 : w.cell? ⟨R, oR + 13, none⟩ = some (.int .u16 8233)) (c14 : w.cell? ⟨R, oR + 14, none⟩ = some (.int .u16 1)) (c15 : w.cell? ⟨R, oR + 15, none⟩ = some (.int .u16 8239)) (c16 : w.cell? ⟨R, oR + 16, none⟩ = some (.int .u16 8287)) (c17 : w.cell? ⟨R, oR + 17, none⟩ = some (.int .u16 48)) (c18 : w.cell? ⟨R, oR + 18, none⟩ = some (.int .u16 12288)) (c19 : w.cell? ⟨R, oR + 19, none⟩ = some (.int .u16 12288)) (c20 : w.cell? ⟨R, oR + 20, none⟩ = some (.int .u16 1)) :
    Calls Tryd.prog 72 #[.slice (some ⟨R, oR + 6, none⟩) 5 5, .int .u16 z] w fun e w' => e = .returned (.bool (Lib.isSpaceR z)) ∧ Below w.heap.size w w' := Any.unicode_is16_white Tryd.lays311 R oR z w hz hz0 c6 c7 c8 c9 c10 c11 c12 c13 c14 c15 c16 c17 c18 c19 c20
def Tryd.lays261_ren : Go.Shelf.Ren := ⟨fun | 261 => 66 | 311 => 72 | 312 => 73 | n => n, fun | 141 => 75 | 21 => 21 | 4 => 4 | 0 => 0 | 196 => 83 | 193 => 80 | 3 => 3 | 51 => 73 | 198 => 86 | 49 => 84 | 194 => 81 | 201 => 89 | 226 => 94 | 46 => 66 | 227 => 95 | n => n, fun | n => n⟩
theorem Tryd.lays261 : Go.Proofs.Lays.n261 Tryd.prog Tryd.lays261_ren := {
  mixed := by kernel_rfl
  f261 := Tryd.func66.trans (congrArg some (by kernel_rfl))
  f311 := Tryd.func72.trans (congrArg some (by kernel_rfl))
  f312 := Tryd.func73.trans (congrArg some (by kernel_rfl))
  t0 := Tryd.underlying0
  a0 := Tryd.isAgg0
  z0 := Tryd.sizeOf0
  v0 := Tryd.zeroValue0
  t3 := Tryd.underlying3
  a3 := Tryd.isAgg3
  z3 := Tryd.sizeOf3
  v3 := Tryd.zeroValue3
  t4 := Tryd.underlying4
  a4 := Tryd.isAgg4
  z4 := Tryd.sizeOf4
  v4 := Tryd.zeroValue4
  t21 := Tryd.underlying21
  a21 := Tryd.isAgg21
  z21 := Tryd.sizeOf21
  v21 := Tryd.zeroValue21
  t46 := Tryd.underlying66
  a46 := Tryd.isAgg66
  z46 := Tryd.sizeOf66
  v46 := Tryd.zeroValue66
  t49 := Tryd.underlying84
  a49 := Tryd.isAgg84
  z49 := Tryd.sizeOf84
  v49 := Tryd.zeroValue84
  t51 := Tryd.underlying73
  a51 := Tryd.isAgg73
  z51 := Tryd.sizeOf73
  v51 := Tryd.zeroValue73
  t141 := Tryd.underlying75
  a141 := Tryd.isAgg75
  z141 := Tryd.sizeOf75
  v141 := Tryd.zeroValue75
  t193 := Tryd.underlying80
  a193 := Tryd.isAgg80
  z193 := Tryd.sizeOf80
  v193 := Tryd.zeroValue80
  t194 := Tryd.underlying81
  a194 := Tryd.isAgg81
  z194 := Tryd.sizeOf81
  v194 := Tryd.zeroValue81
  t196 := Tryd.underlying83
  a196 := Tryd.isAgg83
  z196 := Tryd.sizeOf83
  v196 := Tryd.zeroValue83
  t198 := Tryd.underlying86
  a198 := Tryd.isAgg86
  z198 := Tryd.sizeOf86
  v198 := Tryd.zeroValue86
  t201 := Tryd.underlying89
  a201 := Tryd.isAgg89
  z201 := Tryd.sizeOf89
  v201 := Tryd.zeroValue89
  t226 := Tryd.underlying94
  a226 := Tryd.isAgg94
  z226 := Tryd.sizeOf94
  v226 := Tryd.zeroValue94
  t227 := Tryd.underlying95
  a227 := Tryd.isAgg95
  z227 := Tryd.sizeOf95
  v227 := Tryd.zeroValue95 }
open Go.RowKit Go.Lib in
/-- unicode.isExcludingLatin(White_Space, r), r beyond U+00FF or negative. (LAID: no walk: one application.) -/
theorem Tryd.unicode_isExcludingLatin_white (T oT R oR : Nat) (r : Int) (w : World) (hlo : -2147483648 ≤ r) (hhi : r ≤ 2147483647) (hr : r < 0 ∨ 255 < r) (h2 : w.cell? ⟨T, oT, none⟩ = some (.slice (some ⟨R, oR, none⟩) 7 7)) (h3 : w.cell? ⟨T, oT + 1, none⟩ = some (.slice none 0 0)) (h4 : w.cell? ⟨T, oT + 2, none⟩ = some (.int .i64 2)) (h5 : ∀ i, i < 21 → w.cell? ⟨R, oR + i, none⟩ = some (.int .u16 (whiteT.getD i 0))) :
    Calls Tryd.prog 66 #[.pointer (some ⟨T, oT, none⟩), .int .i32 r] w fun e w' => e = .returned (.bool (Lib.isSpaceZ r)) ∧ Below w.heap.size w w' := Any.unicode_isExcludingLatin_white Tryd.lays261 T oT R oR r w hlo hhi hr h2 h3 h4 h5
open Go.RowKit Go.Lib in
/-- **unicode.IsSpace AT EVERY int32.** (LAID: no walk: one application.) -/
theorem Tryd.unicode_IsSpace_any (r : Int) (w : World) (hlo : -2147483648 ≤ r) (hhi : r ≤ 2147483647) (hW : Lib.WhiteTab 8 w) :
    Calls Tryd.prog 75 #[.int .i32 r] w fun e w' => e = .returned (.bool (Lib.isSpaceZ r)) ∧ Below w.heap.size w w' := Any.unicode_IsSpace_any Tryd.lays199 r w hlo hhi hW
open Go.RowKit Go.Lib in
theorem Tryd.unicode_is16_white_d (R oR : Nat) (z : Nat) (w : World) (hz : z < 65536) (hz0 : 255 < z) (c6 : w.cell? ⟨R, oR + 6, none⟩ = some (.int .u16 160)) (c7 : w.cell? ⟨R, oR + 7, none⟩ = some (.int .u16 5760)) (c8 : w.cell? ⟨R, oR + 8, none⟩ = some (.int .u16 5600)) (c9 : w.cell? ⟨R, oR + 9, none⟩ = some (.int .u16 8192)) (c10 : w.cell? ⟨R, oR + 10, none⟩ = some (.int .u16 8202)) (c11 : w.cell? ⟨R, oR + 11, none⟩ = some (.int .u16 1)) (c12 : w.cell? ⟨R, oR + 12, none⟩ = some (.int .u16 8232)) (c13 : w.cell? ⟨R, oR + 13, none⟩ = some (.int .u16 8233)) (c14 : w.cell? ⟨R, oR + 14, none⟩ = some (.int .u16 1)) (c15 : w.cell? ⟨R, oR + 15, none⟩ = some (.int .u16 8239)) (c16 : w.cell? ⟨R, oR + 16, none⟩ = some (.int .u16 8287)) (c17 : w.cell? ⟨R, oR + 17, none⟩ = some (.int .u16 48)) (c18 : w.cell? ⟨R, oR + 18, none⟩ = some (.int .u16 12288)) (c19 : w.cell? ⟨R, oR + 19, none⟩ = some (.int .u16 12288)) (c20 : w.cell? ⟨R, oR + 20, none⟩ = some (.int .u16 1)) :
    Calls Tryd.prog 72 #[.slice (some ⟨R, oR + 6, none⟩) 5 5, .int .u16 z] w fun e w' => e = .returned (.bool (Lib.isSpaceR z)) ∧ ∃ q, w' = w.drewN q := Any.unicode_is16_white_d Tryd.lays311 R oR z w hz hz0 c6 c7 c8 c9 c10 c11 c12 c13 c14 c15 c16 c17 c18 c19 c20
open Go.RowKit Go.Lib in
/-- unicode.isExcludingLatin(White_Space, r), r beyond U+00FF or negative. (LAID: no walk: one application.) -/
theorem Tryd.unicode_isExcludingLatin_white_d (T oT R oR : Nat) (r : Int) (w : World) (hlo : -2147483648 ≤ r) (hhi : r ≤ 2147483647) (hr : r < 0 ∨ 255 < r) (h2 : w.cell? ⟨T, oT, none⟩ = some (.slice (some ⟨R, oR, none⟩) 7 7)) (h3 : w.cell? ⟨T, oT + 1, none⟩ = some (.slice none 0 0)) (h4 : w.cell? ⟨T, oT + 2, none⟩ = some (.int .i64 2)) (h5 : ∀ i, i < 21 → w.cell? ⟨R, oR + i, none⟩ = some (.int .u16 (whiteT.getD i 0))) :
    Calls Tryd.prog 66 #[.pointer (some ⟨T, oT, none⟩), .int .i32 r] w fun e w' => e = .returned (.bool (Lib.isSpaceZ r)) ∧ ∃ q, w' = w.drewN q := Any.unicode_isExcludingLatin_white_d Tryd.lays261 T oT R oR r w hlo hhi hr h2 h3 h4 h5
open Go.RowKit Go.Lib in
/-- **unicode.IsSpace AT EVERY int32.** (LAID: no walk: one application.) -/
theorem Tryd.unicode_IsSpace_any_d (r : Int) (w : World) (hlo : -2147483648 ≤ r) (hhi : r ≤ 2147483647) (hW : Lib.WhiteTab 8 w) :
    Calls Tryd.prog 75 #[.int .i32 r] w fun e w' => e = .returned (.bool (Lib.isSpaceZ r)) ∧ ∃ q, w' = w.drewN q := Any.unicode_IsSpace_any_d Tryd.lays199 r w hlo hhi hW
def Tryd.lays274_ren : Go.Shelf.Ren := ⟨fun | 274 => 76 | n => n, fun | 21 => 21 | 162 => 93 | 160 => 96 | 3 => 3 | 4 => 4 | 46 => 66 | 0 => 0 | 208 => 102 | 51 => 73 | 206 => 100 | n => n, fun | n => n⟩
theorem Tryd.lays274 : Go.Proofs.Lays.n274 Tryd.prog Tryd.lays274_ren := {
  mixed := by kernel_rfl
  f274 := Tryd.func76.trans (congrArg some (by kernel_rfl))
  t0 := Tryd.underlying0
  a0 := Tryd.isAgg0
  z0 := Tryd.sizeOf0
  v0 := Tryd.zeroValue0
  t3 := Tryd.underlying3
  a3 := Tryd.isAgg3
  z3 := Tryd.sizeOf3
  v3 := Tryd.zeroValue3
  t4 := Tryd.underlying4
  a4 := Tryd.isAgg4
  z4 := Tryd.sizeOf4
  v4 := Tryd.zeroValue4
  t21 := Tryd.underlying21
  a21 := Tryd.isAgg21
  z21 := Tryd.sizeOf21
  v21 := Tryd.zeroValue21
  t46 := Tryd.underlying66
  a46 := Tryd.isAgg66
  z46 := Tryd.sizeOf66
  v46 := Tryd.zeroValue66
  t51 := Tryd.underlying73
  a51 := Tryd.isAgg73
  z51 := Tryd.sizeOf73
  v51 := Tryd.zeroValue73
  t160 := Tryd.underlying96
  a160 := Tryd.isAgg96
  z160 := Tryd.sizeOf96
  v160 := Tryd.zeroValue96
  t162 := Tryd.underlying93
  a162 := Tryd.isAgg93
  z162 := Tryd.sizeOf93
  v162 := Tryd.zeroValue93
  t208 := Tryd.underlying102
  a208 := Tryd.isAgg102
  z208 := Tryd.sizeOf102
  v208 := Tryd.zeroValue102 }
open Go.RowKit Go.Lib in
theorem Tryd.unicode_lookupCaseRange (T : Array CaseRow) (R oR cap : Nat) (r : Int) (w : World) (hT : CaseTab R oR T w) (hok : CaseOk T) (hn : T.size ≤ 1000000000) :
    Calls Tryd.prog 76 #[.int .i32 r, .slice (some ⟨R, oR, none⟩) T.size cap] w fun e w' =>
      e = .returned (match lookupIdx T r (T.size + 1) 0 T.size with | some i => .pointer (some ⟨R, oR + i * 5, none⟩) | none => .pointer none) ∧ w' = w := Any.unicode_lookupCaseRange Tryd.lays274 T R oR cap r w hT hok hn
def Tryd.lays275_ren : Go.Shelf.Ren := ⟨fun | 275 => 77 | n => n, fun | 3 => 3 | 21 => 21 | 160 => 96 | 0 => 0 | 208 => 102 | 206 => 100 | 4 => 4 | 51 => 73 | n => n, fun | n => n⟩
theorem Tryd.lays275 : Go.Proofs.Lays.n275 Tryd.prog Tryd.lays275_ren := {
  mixed := by kernel_rfl
  f275 := Tryd.func77.trans (congrArg some (by kernel_rfl))
  t0 := Tryd.underlying0
  a0 := Tryd.isAgg0
  z0 := Tryd.sizeOf0
  v0 := Tryd.zeroValue0
  t3 := Tryd.underlying3
  a3 := Tryd.isAgg3
  z3 := Tryd.sizeOf3
  v3 := Tryd.zeroValue3
  t4 := Tryd.underlying4
  a4 := Tryd.isAgg4
  z4 := Tryd.sizeOf4
  v4 := Tryd.zeroValue4
  t21 := Tryd.underlying21
  a21 := Tryd.isAgg21
  z21 := Tryd.sizeOf21
  v21 := Tryd.zeroValue21
  t51 := Tryd.underlying73
  a51 := Tryd.isAgg73
  z51 := Tryd.sizeOf73
  v51 := Tryd.zeroValue73
  t160 := Tryd.underlying96
  a160 := Tryd.isAgg96
  z160 := Tryd.sizeOf96
  v160 := Tryd.zeroValue96
  t206 := Tryd.underlying100
  a206 := Tryd.isAgg100
  z206 := Tryd.sizeOf100
  v206 := Tryd.zeroValue100
  t208 := Tryd.underlying102
  a208 := Tryd.isAgg102
  z208 := Tryd.sizeOf102
  v208 := Tryd.zeroValue102 }
open Go.RowKit Go.Lib in
theorem Tryd.unicode_convertCase (c : Nat) (hc : c < 3) (r : Int) (A o : Nat) (x : CaseRow) (w : World) (hlo : (x.1 : Int) ≤ r) (hhi : r ≤ (x.2.1 : Int)) (hH : x.2.1 < 2147483647) (c0 : w.cell? ⟨A, o, none⟩ = some (.int .u32 x.1)) (cD : w.cell? ⟨A, o + 2 + c, none⟩ = some (.int .i32 (x.delta c))) :
    Calls Tryd.prog 77 #[.int .i64 c, .int .i32 r, .pointer (some ⟨A, o, none⟩)] w fun e w' => e = .returned (.int .i32 (wrap32 (convertR c r x))) ∧ ∃ q, w' = w.drewN q := Any.unicode_convertCase Tryd.lays275 c hc r A o x w hlo hhi hH c0 cD
def Tryd.lays313_ren : Go.Shelf.Ren := ⟨fun | 313 => 74 | 274 => 76 | 275 => 77 | n => n, fun | 3 => 3 | 21 => 21 | 162 => 93 | 4 => 4 | 160 => 96 | 46 => 66 | 0 => 0 | 208 => 102 | 51 => 73 | 206 => 100 | n => n, fun | n => n⟩
theorem Tryd.lays313 : Go.Proofs.Lays.n313 Tryd.prog Tryd.lays313_ren := {
  mixed := by kernel_rfl
  f274 := Tryd.func76.trans (congrArg some (by kernel_rfl))
  f275 := Tryd.func77.trans (congrArg some (by kernel_rfl))
  f313 := Tryd.func74.trans (congrArg some (by kernel_rfl))
  t0 := Tryd.underlying0
  a0 := Tryd.isAgg0
  z0 := Tryd.sizeOf0
  v0 := Tryd.zeroValue0
  t3 := Tryd.underlying3
  a3 := Tryd.isAgg3
  z3 := Tryd.sizeOf3
  v3 := Tryd.zeroValue3
  t4 := Tryd.underlying4
  a4 := Tryd.isAgg4
  z4 := Tryd.sizeOf4
  v4 := Tryd.zeroValue4
  t21 := Tryd.underlying21
  a21 := Tryd.isAgg21
  z21 := Tryd.sizeOf21
  v21 := Tryd.zeroValue21
  t46 := Tryd.underlying66
  a46 := Tryd.isAgg66
  z46 := Tryd.sizeOf66
  v46 := Tryd.zeroValue66
  t51 := Tryd.underlying73
  a51 := Tryd.isAgg73
  z51 := Tryd.sizeOf73
  v51 := Tryd.zeroValue73
  t160 := Tryd.underlying96
  a160 := Tryd.isAgg96
  z160 := Tryd.sizeOf96
  v160 := Tryd.zeroValue96
  t162 := Tryd.underlying93
  a162 := Tryd.isAgg93
  z162 := Tryd.sizeOf93
  v162 := Tryd.zeroValue93
  t206 := Tryd.underlying100
  a206 := Tryd.isAgg100
  z206 := Tryd.sizeOf100
  v206 := Tryd.zeroValue100
  t208 := Tryd.underlying102
  a208 := Tryd.isAgg102
  z208 := Tryd.sizeOf102
  v208 := Tryd.zeroValue102 }
open Go.RowKit Go.Lib in
theorem Tryd.unicode_to (c : Nat) (hc : c < 3) (r : Int) (T : Array CaseRow) (R oR cap : Nat) (w : World) (hT : CaseTab R oR T w) (hok : CaseOk2 T) (hn : T.size ≤ 1000000000) :
    Calls Tryd.prog 74 #[.int .i64 c, .int .i32 r, .slice (some ⟨R, oR, none⟩) T.size cap] w fun e w' => e = .returned (.tuple #[.int .i32 (toW T c r), .bool (lookupIdx T r (T.size + 1) 0 T.size).isSome]) ∧ ∃ q, w' = w.drewN q := Any.unicode_to Tryd.lays313 c hc r T R oR cap w hT hok hn
def Tryd.lays262_ren : Go.Shelf.Ren := ⟨fun | 262 => 67 | 313 => 74 | 274 => 76 | 275 => 77 | n => n, fun | 3 => 3 | 21 => 21 | 162 => 93 | 203 => 91 | 4 => 4 | 160 => 96 | 46 => 66 | 0 => 0 | 208 => 102 | 51 => 73 | 206 => 100 | n => n, fun | 13 => 6 | n => n⟩
theorem Tryd.lays262 : Go.Proofs.Lays.n262 Tryd.prog Tryd.lays262_ren := {
  mixed := by kernel_rfl
  f262 := Tryd.func67.trans (congrArg some (by kernel_rfl))
  f274 := Tryd.func76.trans (congrArg some (by kernel_rfl))
  f275 := Tryd.func77.trans (congrArg some (by kernel_rfl))
  f313 := Tryd.func74.trans (congrArg some (by kernel_rfl))
  t0 := Tryd.underlying0
  a0 := Tryd.isAgg0
  z0 := Tryd.sizeOf0
  v0 := Tryd.zeroValue0
  t3 := Tryd.underlying3
  a3 := Tryd.isAgg3
  z3 := Tryd.sizeOf3
  v3 := Tryd.zeroValue3
  t4 := Tryd.underlying4
  a4 := Tryd.isAgg4
  z4 := Tryd.sizeOf4
  v4 := Tryd.zeroValue4
  t21 := Tryd.underlying21
  a21 := Tryd.isAgg21
  z21 := Tryd.sizeOf21
  v21 := Tryd.zeroValue21
  t46 := Tryd.underlying66
  a46 := Tryd.isAgg66
  z46 := Tryd.sizeOf66
  v46 := Tryd.zeroValue66
  t51 := Tryd.underlying73
  a51 := Tryd.isAgg73
  z51 := Tryd.sizeOf73
  v51 := Tryd.zeroValue73
  t160 := Tryd.underlying96
  a160 := Tryd.isAgg96
  z160 := Tryd.sizeOf96
  v160 := Tryd.zeroValue96
  t162 := Tryd.underlying93
  a162 := Tryd.isAgg93
  z162 := Tryd.sizeOf93
  v162 := Tryd.zeroValue93
  t203 := Tryd.underlying91
  a203 := Tryd.isAgg91
  z203 := Tryd.sizeOf91
  v203 := Tryd.zeroValue91
  t206 := Tryd.underlying100
  a206 := Tryd.isAgg100
  z206 := Tryd.sizeOf100
  v206 := Tryd.zeroValue100
  t208 := Tryd.underlying102
  a208 := Tryd.isAgg102
  z208 := Tryd.sizeOf102
  v208 := Tryd.zeroValue102
  g13 := by kernel_rfl }
open Go.RowKit Go.Lib in
theorem Tryd.unicode_To (c : Nat) (hc : c < 3) (r : Int) (T : Array CaseRow) (w : World) (hV : CaseVar 6 T w) (hok : CaseOk2 T) (hn : T.size ≤ 1000000000) :
    Calls Tryd.prog 67 #[.int .i64 c, .int .i32 r] w fun e w' => e = .returned (.int .i32 (toW T c r)) ∧ ∃ q, w' = w.drewN q := Any.unicode_To Tryd.lays262 c hc r T w hV hok hn
open Go.RowKit Go.Lib in
theorem Tryd.unicode_ToLower_any (r : Int) (T : Array CaseRow) (w : World) (hV : CaseVar 6 T w) (hok : CaseOk2 T) (hn : T.size ≤ 1000000000) :
    Calls Tryd.prog 57 #[.int .i32 r] w fun e w' => e = .returned (.int .i32 (Lib.toLowerW T r)) ∧ ∃ q, w' = w.drewN q := Any.unicode_ToLower_any Tryd.lays204 r T w hV hok hn
open Go.RowKit Go.Lib in
theorem Tryd.unicode_ToUpper_any (r : Int) (T : Array CaseRow) (w : World) (hV : CaseVar 6 T w) (hok : CaseOk2 T) (hn : T.size ≤ 1000000000) :
    Calls Tryd.prog 59 #[.int .i32 r] w fun e w' => e = .returned (.int .i32 (Lib.toUpperW T r)) ∧ ∃ q, w' = w.drewN q := Any.unicode_ToUpper_any Tryd.lays203 r T w hV hok hn
open Go.RowKit Go.Lib in
theorem Tryd.unicode_ToLower_laid (r : Int) (w : World) (hV : CaseVar 6 caseA w) :
    Calls Tryd.prog 57 #[.int .i32 r] w fun e w' => e = .returned (.int .i32 (toLowerU r)) ∧ ∃ q, w' = w.drewN q := Any.unicode_ToLower_laid Tryd.lays204 r w hV
open Go.RowKit Go.Lib in
theorem Tryd.unicode_ToUpper_laid (r : Int) (w : World) (hV : CaseVar 6 caseA w) :
    Calls Tryd.prog 59 #[.int .i32 r] w fun e w' => e = .returned (.int .i32 (toUpperU r)) ∧ ∃ q, w' = w.drewN q := Any.unicode_ToUpper_laid Tryd.lays203 r w hV
open Go.RowKit Go.Lib in
theorem Tryd.unicode_is16_any (T : Array Rg) (R oR cap : Nat) (z : Nat) (w : World) (hz : z < 65536) (hT : RgTab .u16 R oR T w) (hok : RgOk 65536 T) (hn : T.size ≤ 1000000000) :
    Calls Tryd.prog 72 #[.slice (some ⟨R, oR, none⟩) T.size cap, .int .u16 z] w fun e w' => e = .returned (.bool (is16Go T z)) ∧ ∃ q, w' = w.drewN q := Any.unicode_is16_any Tryd.lays311 T R oR cap z w hz hT hok hn
def Tryd.lays312_ren : Go.Shelf.Ren := ⟨fun | 312 => 73 | n => n, fun | 194 => 81 | 51 => 73 | 4 => 4 | 3 => 3 | 0 => 0 | 227 => 95 | 201 => 89 | 46 => 66 | n => n, fun | n => n⟩
theorem Tryd.lays312 : Go.Proofs.Lays.n312 Tryd.prog Tryd.lays312_ren := {
  mixed := by kernel_rfl
  f312 := Tryd.func73.trans (congrArg some (by kernel_rfl))
  t0 := Tryd.underlying0
  a0 := Tryd.isAgg0
  z0 := Tryd.sizeOf0
  v0 := Tryd.zeroValue0
  t3 := Tryd.underlying3
  a3 := Tryd.isAgg3
  z3 := Tryd.sizeOf3
  v3 := Tryd.zeroValue3
  t4 := Tryd.underlying4
  a4 := Tryd.isAgg4
  z4 := Tryd.sizeOf4
  v4 := Tryd.zeroValue4
  t46 := Tryd.underlying66
  a46 := Tryd.isAgg66
  z46 := Tryd.sizeOf66
  v46 := Tryd.zeroValue66
  t51 := Tryd.underlying73
  a51 := Tryd.isAgg73
  z51 := Tryd.sizeOf73
  v51 := Tryd.zeroValue73
  t194 := Tryd.underlying81
  a194 := Tryd.isAgg81
  z194 := Tryd.sizeOf81
  v194 := Tryd.zeroValue81
  t201 := Tryd.underlying89
  a201 := Tryd.isAgg89
  z201 := Tryd.sizeOf89
  v201 := Tryd.zeroValue89
  t227 := Tryd.underlying95
  a227 := Tryd.isAgg95
  z227 := Tryd.sizeOf95
  v227 := Tryd.zeroValue95 }
open Go.RowKit Go.Lib in
theorem Tryd.unicode_is32_any (T : Array Rg) (R oR cap : Nat) (z : Nat) (w : World) (hz : z < 4294967296) (hT : RgTab .u32 R oR T w) (hok : RgOk 4294967296 T) (hn : T.size ≤ 1000000000) :
    Calls Tryd.prog 73 #[.slice (some ⟨R, oR, none⟩) T.size cap, .int .u32 z] w fun e w' => e = .returned (.bool (is32Go T z)) ∧ Below w.heap.size w w' := Any.unicode_is32_any Tryd.lays312 T R oR cap z w hz hT hok hn
open Go.RowKit Go.Lib in
theorem Tryd.unicode_isExcludingLatin_any (Tb oT : Nat) (T : RTab) (r : Int) (w : World) (hlo : -2147483648 ≤ r) (hhi : r ≤ 2147483647) (hA : RTabAt Tb oT T w) (hok : RTabOk T) :
    Calls Tryd.prog 66 #[.pointer (some ⟨Tb, oT, none⟩), .int .i32 r] w fun e w' => e = .returned (.bool (exclGo T r)) ∧ Below w.heap.size w w' := Any.unicode_isExcludingLatin_any Tryd.lays261 Tb oT T r w hlo hhi hA hok
open Go.RowKit Go.Lib in
/-- unicode.IsLetter(r) AT EVERY int32, over whatever table the variable unicode.Letter leads to. (LAID: no walk: one application.) -/
theorem Tryd.unicode_IsLetter_any (T : RTab) (r : Int) (w : World) (hlo : -2147483648 ≤ r) (hhi : r ≤ 2147483647) (htab : Lib.TabIs Tryd.prog w "unicode.properties" .u8 Lib.propertiesTab) (hV : RVar 5 T w) (hok : RTabOk T) :
    Calls Tryd.prog 65 #[.int .i32 r] w fun e w' => e = .returned (.bool (if latin1 r then isLetterL r else exclGo T r)) ∧ Below w.heap.size w w' := Any.unicode_IsLetter_any Tryd.lays200 (by kernel_rfl) T r w hlo hhi htab hV hok
open Go.RowKit Go.Lib in
/-- unicode.IsUpper(r) AT EVERY int32, over whatever table the variable unicode.Upper leads to. (LAID: no walk: one application.) -/
theorem Tryd.unicode_IsUpper_any (T : RTab) (r : Int) (w : World) (hlo : -2147483648 ≤ r) (hhi : r ≤ 2147483647) (htab : Lib.TabIs Tryd.prog w "unicode.properties" .u8 Lib.propertiesTab) (hV : RVar 3 T w) (hok : RTabOk T) :
    Calls Tryd.prog 56 #[.int .i32 r] w fun e w' => e = .returned (.bool (if latin1 r then isUpperL r else exclGo T r)) ∧ Below w.heap.size w w' := Any.unicode_IsUpper_any Tryd.lays201 (by kernel_rfl) T r w hlo hhi htab hV hok
open Go.RowKit Go.Lib in
/-- unicode.IsLower(r) AT EVERY int32, over whatever table the variable unicode.Lower leads to. (LAID: no walk: one application.) -/
theorem Tryd.unicode_IsLower_any (T : RTab) (r : Int) (w : World) (hlo : -2147483648 ≤ r) (hhi : r ≤ 2147483647) (htab : Lib.TabIs Tryd.prog w "unicode.properties" .u8 Lib.propertiesTab) (hV : RVar 4 T w) (hok : RTabOk T) :
    Calls Tryd.prog 58 #[.int .i32 r] w fun e w' => e = .returned (.bool (if latin1 r then isLowerL r else exclGo T r)) ∧ Below w.heap.size w w' := Any.unicode_IsLower_any Tryd.lays202 (by kernel_rfl) T r w hlo hhi htab hV hok
open Go.RowKit Go.Lib in
/-- unicode.IsLetter(r) AT EVERY int32, the tables as their initialisers lay them: 'Lib.isLetterU r'. (LAID: no walk: one application.) -/
theorem Tryd.unicode_IsLetter_all (r : Int) (w : World) (hlo : -2147483648 ≤ r) (hhi : r ≤ 2147483647) (htab : Lib.TabIs Tryd.prog w "unicode.properties" .u8 Lib.propertiesTab) (hV : RVar 5 letterT w) :
    Calls Tryd.prog 65 #[.int .i32 r] w fun e w' => e = .returned (.bool (isLetterU r)) ∧ Below w.heap.size w w' := Any.unicode_IsLetter_all Tryd.lays200 (by kernel_rfl) r w hlo hhi htab hV
open Go.RowKit Go.Lib in
/-- unicode.IsUpper(r) AT EVERY int32, the tables as their initialisers lay them: 'Lib.isUpperU r'. (LAID: no walk: one application.) -/
theorem Tryd.unicode_IsUpper_all (r : Int) (w : World) (hlo : -2147483648 ≤ r) (hhi : r ≤ 2147483647) (htab : Lib.TabIs Tryd.prog w "unicode.properties" .u8 Lib.propertiesTab) (hV : RVar 3 upperT w) :
    Calls Tryd.prog 56 #[.int .i32 r] w fun e w' => e = .returned (.bool (isUpperU r)) ∧ Below w.heap.size w w' := Any.unicode_IsUpper_all Tryd.lays201 (by kernel_rfl) r w hlo hhi htab hV
open Go.RowKit Go.Lib in
/-- unicode.IsLower(r) AT EVERY int32, the tables as their initialisers lay them: 'Lib.isLowerU r'. (LAID: no walk: one application.) -/
theorem Tryd.unicode_IsLower_all (r : Int) (w : World) (hlo : -2147483648 ≤ r) (hhi : r ≤ 2147483647) (htab : Lib.TabIs Tryd.prog w "unicode.properties" .u8 Lib.propertiesTab) (hV : RVar 4 lowerT w) :
    Calls Tryd.prog 58 #[.int .i32 r] w fun e w' => e = .returned (.bool (isLowerU r)) ∧ Below w.heap.size w w' := Any.unicode_IsLower_all Tryd.lays202 (by kernel_rfl) r w hlo hhi htab hV
def Tryd.lays196_ren : Go.Shelf.Ren := ⟨fun | 196 => 37 | 259 => 52 | n => n, fun | 9 => 9 | 4 => 4 | 3 => 3 | 5 => 5 | 12 => 12 | 119 => 62 | 0 => 0 | 46 => 66 | 139 => 65 | 138 => 64 | 53 => 72 | n => n, fun | 3 => 0 | 4 => 1 | n => n⟩
theorem Tryd.lays196 : Go.Proofs.Lays.n196 Tryd.prog Tryd.lays196_ren := {
  mixed := by kernel_rfl
  f196 := Tryd.func37.trans (congrArg some (by kernel_rfl))
  f259 := Tryd.func52.trans (congrArg some (by kernel_rfl))
  t0 := Tryd.underlying0
  a0 := Tryd.isAgg0
  z0 := Tryd.sizeOf0
  v0 := Tryd.zeroValue0
  t3 := Tryd.underlying3
  a3 := Tryd.isAgg3
  z3 := Tryd.sizeOf3
  v3 := Tryd.zeroValue3
  t4 := Tryd.underlying4
  a4 := Tryd.isAgg4
  z4 := Tryd.sizeOf4
  v4 := Tryd.zeroValue4
  t5 := Tryd.underlying5
  a5 := Tryd.isAgg5
  z5 := Tryd.sizeOf5
  v5 := Tryd.zeroValue5
  t9 := Tryd.underlying9
  a9 := Tryd.isAgg9
  z9 := Tryd.sizeOf9
  v9 := Tryd.zeroValue9
  t12 := Tryd.underlying12
  a12 := Tryd.isAgg12
  z12 := Tryd.sizeOf12
  v12 := Tryd.zeroValue12
  t46 := Tryd.underlying66
  a46 := Tryd.isAgg66
  z46 := Tryd.sizeOf66
  v46 := Tryd.zeroValue66
  t53 := Tryd.underlying72
  a53 := Tryd.isAgg72
  z53 := Tryd.sizeOf72
  v53 := Tryd.zeroValue72
  t119 := Tryd.underlying62
  a119 := Tryd.isAgg62
  z119 := Tryd.sizeOf62
  t138 := Tryd.underlying64
  a138 := Tryd.isAgg64
  z138 := Tryd.sizeOf64
  v138 := Tryd.zeroValue64
  t139 := Tryd.underlying65
  a139 := Tryd.isAgg65
  z139 := Tryd.sizeOf65
  v139 := Tryd.zeroValue65
  g3 := by kernel_rfl
  g4 := by kernel_rfl }
open Go.RowKit Go.Lib in
theorem Tryd.utf8_ValidString (s : ByteArray) (w : World) (hs : s.size ≤ 9223372036854775807) (hT : Lib.Utf8Tabs 0 1 w) :
    Calls Tryd.prog 37 #[.string s] w fun e w' => e = .returned (.bool (Lib.validD s.data.toList)) ∧ Below w.heap.size w w' := Any.utf8_ValidString Tryd.lays196 s w hs hT
end Go.Proofs
