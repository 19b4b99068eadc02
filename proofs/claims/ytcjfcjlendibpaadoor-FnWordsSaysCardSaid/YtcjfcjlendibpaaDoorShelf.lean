/-
  DERIVED: THE SHELF's CONTRACTS AT THIS DUMP, IN PLAIN WORDS (tools/lay-plain.mjs out of 'TrydShelf.lean', which tools/lay-shelf.mjs wrote): THE SAME DECLARATIONS UNDER THE SAME NAMES: 'import', 'namespace', 'open', 'def', 'theorem' AND NOTHING ELSE: no command of the shelf's: FOR A HAND-IN. Each laying: the table of numbers ('.._ren') and one theorem, a field a fact of the dump's own or the kernel's comparison; each contract: ONE APPLICATION.
-/
import Derived.Shelf.Small.Strs
import Derived.Shelf.Strings.Search1
import Derived.Shelf.GgClosure.StringsIndexFunc
import Derived.Ground.GgwProg
import Derived.Shelf.GgClosure.StringsIndexFuncTop
import Derived.Shelf.Strings.Prefix
import Derived.Shelf.Unicode.Latin
import Derived.Shelf.Unicode.Props
import Derived.Shelf.LaysM
import Derived.Shelf.Unicode.PropsLaid
import Derived.Shelf.Unicode.Is16White
import Derived.Shelf.Unicode.IsSpaceAny
import Derived.Shelf.Unicode.Is16Any
import Derived.Shelf.Unicode.Is32Any
import Derived.Shelf.Unicode.ExclAny
import Derived.Shelf.Unicode.PredsAny
import Derived.Shelf.Strings.FuncGrows
import Derived.Shelf.Unicode.PredsPay
import Derived.Test.YtcjfcjlendibpaaDoorProg
namespace Go.Proofs
open Go.Shelf
def Tryd.lays137_ren : Go.Shelf.Ren := ⟨fun | 137 => 51 | 217 => 57 | 266 => 59 | n => n, fun | 9 => 9 | 5 => 5 | 3 => 3 | n => n, fun | n => n⟩
theorem Tryd.lays137 : Go.Proofs.Lays.n137 Tryd.prog Tryd.lays137_ren := {
  mixed := by kernel_rfl
  f137 := Tryd.func51.trans (congrArg some (by kernel_rfl))
  f217 := Tryd.func57.trans (congrArg some (by kernel_rfl))
  f266 := Tryd.func59.trans (congrArg some (by kernel_rfl))
  t3 := Tryd.underlying3
  a3 := Tryd.isAgg3
  z3 := Tryd.sizeOf3
  v3 := Tryd.zeroValue3
  t5 := Tryd.underlying5
  a5 := Tryd.isAgg5
  z5 := Tryd.sizeOf5
  v5 := Tryd.zeroValue5
  t9 := Tryd.underlying9
  a9 := Tryd.isAgg9
  z9 := Tryd.sizeOf9
  v9 := Tryd.zeroValue9 }
open Go.RowKit in
/-- strings.IndexByte: "IndexByte returns the index of the first instance of c in s, or -1 if c is not present in s.": IT RETURNS 'Lib.indexByte s c'; the world is as it was. (LAID: no walk: one application.) -/
theorem Tryd.strings_IndexByte (s : ByteArray) (c : Int) (w : World) :
    Calls Tryd.prog 51 #[.string s, .int .u8 c] w fun e w' => e = .returned (.int .i64 (Lib.indexByte s.data.toList c.toNat.toUInt8)) ∧ w' = w := Any.strings_IndexByte Tryd.lays137 s c w
def Tryd.lays217_ren : Go.Shelf.Ren := ⟨fun | 217 => 57 | 266 => 59 | n => n, fun | 9 => 9 | 5 => 5 | 3 => 3 | n => n, fun | n => n⟩
theorem Tryd.lays217 : Go.Proofs.Lays.n217 Tryd.prog Tryd.lays217_ren := {
  mixed := by kernel_rfl
  f217 := Tryd.func57.trans (congrArg some (by kernel_rfl))
  f266 := Tryd.func59.trans (congrArg some (by kernel_rfl))
  t3 := Tryd.underlying3
  a3 := Tryd.isAgg3
  z3 := Tryd.sizeOf3
  v3 := Tryd.zeroValue3
  t5 := Tryd.underlying5
  a5 := Tryd.isAgg5
  z5 := Tryd.sizeOf5
  v5 := Tryd.zeroValue5
  t9 := Tryd.underlying9
  a9 := Tryd.isAgg9
  z9 := Tryd.sizeOf9
  v9 := Tryd.zeroValue9 }
open Go.RowKit Go.Lib in
/-- internal/stringslite.IndexByte (what strings.IndexByte calls): IT RETURNS 'Lib.indexByte s c'; the world is as it was. (LAID: no walk: one application.) -/
theorem Tryd.stringslite_IndexByte (s : ByteArray) (c : Int) (w : World) :
    Calls Tryd.prog 57 #[.string s, .int .u8 c] w fun e w' => e = .returned (.int .i64 (Lib.indexByte s.data.toList c.toNat.toUInt8)) ∧ w' = w := Any.stringslite_IndexByte Tryd.lays217 s c w
def Tryd.lays315_ren : Go.Shelf.Ren := ⟨fun | 315 => 54 | n => n, fun | 9 => 9 | 40 => 68 | 4 => 4 | 3 => 3 | 0 => 0 | 21 => 21 | n => n, fun | n => n⟩
theorem Tryd.lays315 : Go.Proofs.Lays.n315 Tryd.prog Tryd.lays315_ren := {
  mixed := by kernel_rfl
  f315 := Tryd.func54.trans (congrArg some (by kernel_rfl))
  t0 := Tryd.underlying0
  a0 := Tryd.isAgg0
  z0 := Tryd.sizeOf0
  v0 := Tryd.zeroValue0
  t3 := Tryd.underlying3
  a3 := Tryd.isAgg3
  z3 := Tryd.sizeOf3
  v3 := Tryd.zeroValue3
  t4 := Tryd.underlying4
  a4 := Tryd.isAgg4
  z4 := Tryd.sizeOf4
  v4 := Tryd.zeroValue4
  t9 := Tryd.underlying9
  a9 := Tryd.isAgg9
  z9 := Tryd.sizeOf9
  v9 := Tryd.zeroValue9
  t21 := Tryd.underlying21
  a21 := Tryd.isAgg21
  z21 := Tryd.sizeOf21
  v21 := Tryd.zeroValue21
  t40 := Tryd.underlying68
  a40 := Tryd.isAgg68
  z40 := Tryd.sizeOf68
  v40 := Tryd.zeroValue68 }
open Go.RowKit Go.Lib in
theorem Tryd.strings_indexFunc (g : Nat) (lb : Array Value) (eg : ∀ args w, (callFunc g args).run Tryd.prog w = .ok (.enter g args) w) (p : Nat → Bool) (truth : Bool) (s : ByteArray) (w : World) (hp : PredAt Tryd.prog g lb encR p w) :
    Calls Tryd.prog 54 #[.string s, .func (.func g) #[] lb, .bool truth] w fun e w' => e = .returned (.int .i64 (Lib.idxFunc p truth s)) ∧ Below w.heap.size w w' := Any.strings_indexFunc Tryd.lays315 g lb eg p truth s w hp
def Tryd.laysGw15_ren : Go.Shelf.Ren := ⟨fun | 15 => 47 | 20 => 54 | n => n, fun | 9 => 9 | 23 => 68 | 3 => 3 | 4 => 4 | 0 => 0 | 21 => 21 | n => n, fun | n => n⟩
theorem Tryd.laysGw15 : Go.Proofs.LaysGw.n15 Tryd.prog Tryd.laysGw15_ren := {
  mixed := by kernel_rfl
  f15 := Tryd.func47.trans (congrArg some (by kernel_rfl))
  f20 := Tryd.func54.trans (congrArg some (by kernel_rfl))
  t0 := Tryd.underlying0
  a0 := Tryd.isAgg0
  z0 := Tryd.sizeOf0
  v0 := Tryd.zeroValue0
  i0 := by kernel_rfl
  t3 := Tryd.underlying3
  a3 := Tryd.isAgg3
  z3 := Tryd.sizeOf3
  v3 := Tryd.zeroValue3
  i3 := by kernel_rfl
  t4 := Tryd.underlying4
  a4 := Tryd.isAgg4
  z4 := Tryd.sizeOf4
  v4 := Tryd.zeroValue4
  i4 := by kernel_rfl
  t9 := Tryd.underlying9
  a9 := Tryd.isAgg9
  z9 := Tryd.sizeOf9
  v9 := Tryd.zeroValue9
  i9 := by kernel_rfl
  t21 := Tryd.underlying21
  a21 := Tryd.isAgg21
  z21 := Tryd.sizeOf21
  v21 := Tryd.zeroValue21
  i21 := by kernel_rfl
  t23 := Tryd.underlying68
  a23 := Tryd.isAgg68
  z23 := Tryd.sizeOf68
  v23 := Tryd.zeroValue68
  i23 := by kernel_rfl }
open Go.RowKit Go.Lib in
theorem Tryd.strings_IndexFunc (g : Nat) (lb : Array Value) (eg : ∀ args w, (callFunc g args).run Tryd.prog w = .ok (.enter g args) w) (p : Nat → Bool) (s : ByteArray) (w : World) (hp : PredAt Tryd.prog g lb encR p w) :
    Calls Tryd.prog 47 #[.string s, .func (.func g) #[] lb] w fun e w' => e = .returned (.int .i64 (Lib.idxFunc p true s)) ∧ Below w.heap.size w w' := Any.strings_IndexFunc Tryd.laysGw15 g lb eg p s w hp
def Tryd.lays206_ren : Go.Shelf.Ren := ⟨fun | 206 => 53 | n => n, fun | 9 => 9 | 4 => 4 | 3 => 3 | n => n, fun | n => n⟩
theorem Tryd.lays206 : Go.Proofs.Lays.n206 Tryd.prog Tryd.lays206_ren := {
  mixed := by kernel_rfl
  f206 := Tryd.func53.trans (congrArg some (by kernel_rfl))
  t3 := Tryd.underlying3
  a3 := Tryd.isAgg3
  z3 := Tryd.sizeOf3
  v3 := Tryd.zeroValue3
  t4 := Tryd.underlying4
  a4 := Tryd.isAgg4
  z4 := Tryd.sizeOf4
  v4 := Tryd.zeroValue4
  t9 := Tryd.underlying9
  a9 := Tryd.isAgg9
  z9 := Tryd.sizeOf9
  v9 := Tryd.zeroValue9 }
open Go.RowKit Go.Lib in
/-- internal/stringslite.HasPrefix (what strings.HasPrefix calls). (LAID: no walk: one application.) -/
theorem Tryd.stringslite_HasPrefix (s p : ByteArray) (w : World) :
    Calls Tryd.prog 53 #[.string s, .string p] w fun e w' => e = .returned (.bool (Lib.hasPrefix s.data.toList p.data.toList)) ∧ w' = w := Any.stringslite_HasPrefix Tryd.lays206 s p w
def Tryd.lays99_ren : Go.Shelf.Ren := ⟨fun | 99 => 46 | 206 => 53 | n => n, fun | 9 => 9 | 4 => 4 | 3 => 3 | n => n, fun | n => n⟩
theorem Tryd.lays99 : Go.Proofs.Lays.n99 Tryd.prog Tryd.lays99_ren := {
  mixed := by kernel_rfl
  f99 := Tryd.func46.trans (congrArg some (by kernel_rfl))
  f206 := Tryd.func53.trans (congrArg some (by kernel_rfl))
  t3 := Tryd.underlying3
  a3 := Tryd.isAgg3
  z3 := Tryd.sizeOf3
  v3 := Tryd.zeroValue3
  t4 := Tryd.underlying4
  a4 := Tryd.isAgg4
  z4 := Tryd.sizeOf4
  v4 := Tryd.zeroValue4
  t9 := Tryd.underlying9
  a9 := Tryd.isAgg9
  z9 := Tryd.sizeOf9
  v9 := Tryd.zeroValue9 }
open Go.RowKit Go.Lib in
/-- strings.HasPrefix: "HasPrefix reports whether the string s begins with prefix.": IT RETURNS 'Lib.hasPrefix s prefix'; the world is as it was. (LAID: no walk: one application.) -/
theorem Tryd.strings_HasPrefix (s p : ByteArray) (w : World) :
    Calls Tryd.prog 46 #[.string s, .string p] w fun e w' => e = .returned (.bool (Lib.hasPrefix s.data.toList p.data.toList)) ∧ w' = w := Any.strings_HasPrefix Tryd.lays99 s p w
def Tryd.lays198_ren : Go.Shelf.Ren := ⟨fun | 198 => 56 | 261 => 58 | 311 => 60 | 312 => 61 | n => n, fun | 21 => 21 | 4 => 4 | 141 => 79 | 0 => 0 | 196 => 83 | 193 => 80 | 3 => 3 | 51 => 76 | 198 => 86 | 49 => 84 | 194 => 81 | 201 => 89 | 226 => 91 | 46 => 92 | 227 => 93 | n => n, fun | 5 => 3 | n => n⟩
theorem Tryd.lays198 : Go.Proofs.Lays.n198 Tryd.prog Tryd.lays198_ren := {
  mixed := by kernel_rfl
  f198 := Tryd.func56.trans (congrArg some (by kernel_rfl))
  f261 := Tryd.func58.trans (congrArg some (by kernel_rfl))
  f311 := Tryd.func60.trans (congrArg some (by kernel_rfl))
  f312 := Tryd.func61.trans (congrArg some (by kernel_rfl))
  t0 := Tryd.underlying0
  a0 := Tryd.isAgg0
  z0 := Tryd.sizeOf0
  v0 := Tryd.zeroValue0
  t3 := Tryd.underlying3
  a3 := Tryd.isAgg3
  z3 := Tryd.sizeOf3
  v3 := Tryd.zeroValue3
  t4 := Tryd.underlying4
  a4 := Tryd.isAgg4
  z4 := Tryd.sizeOf4
  v4 := Tryd.zeroValue4
  t21 := Tryd.underlying21
  a21 := Tryd.isAgg21
  z21 := Tryd.sizeOf21
  v21 := Tryd.zeroValue21
  t46 := Tryd.underlying92
  a46 := Tryd.isAgg92
  z46 := Tryd.sizeOf92
  v46 := Tryd.zeroValue92
  t49 := Tryd.underlying84
  a49 := Tryd.isAgg84
  z49 := Tryd.sizeOf84
  v49 := Tryd.zeroValue84
  t51 := Tryd.underlying76
  a51 := Tryd.isAgg76
  z51 := Tryd.sizeOf76
  v51 := Tryd.zeroValue76
  t141 := Tryd.underlying79
  a141 := Tryd.isAgg79
  z141 := Tryd.sizeOf79
  v141 := Tryd.zeroValue79
  t193 := Tryd.underlying80
  a193 := Tryd.isAgg80
  z193 := Tryd.sizeOf80
  v193 := Tryd.zeroValue80
  t194 := Tryd.underlying81
  a194 := Tryd.isAgg81
  z194 := Tryd.sizeOf81
  v194 := Tryd.zeroValue81
  t196 := Tryd.underlying83
  a196 := Tryd.isAgg83
  z196 := Tryd.sizeOf83
  v196 := Tryd.zeroValue83
  t198 := Tryd.underlying86
  a198 := Tryd.isAgg86
  z198 := Tryd.sizeOf86
  v198 := Tryd.zeroValue86
  t201 := Tryd.underlying89
  a201 := Tryd.isAgg89
  z201 := Tryd.sizeOf89
  v201 := Tryd.zeroValue89
  t226 := Tryd.underlying91
  a226 := Tryd.isAgg91
  z226 := Tryd.sizeOf91
  v226 := Tryd.zeroValue91
  t227 := Tryd.underlying93
  a227 := Tryd.isAgg93
  z227 := Tryd.sizeOf93
  v227 := Tryd.zeroValue93
  g5 := by kernel_rfl }
open Go.RowKit Go.Lib in
theorem Tryd.unicode_IsDigit (r : Int) (w : World) (h : r ≤ 255) :
    Calls Tryd.prog 56 #[.int .i32 r] w fun e w' => e = .returned (.bool (Lib.isDigitL r)) ∧ w' = w := Any.unicode_IsDigit Tryd.lays198 r w h
def Tryd.lays200_ren : Go.Shelf.Ren := ⟨fun | 200 => 55 | 261 => 58 | 311 => 60 | 312 => 61 | n => n, fun | 21 => 21 | 4 => 4 | 51 => 76 | 5 => 5 | 119 => 77 | 0 => 0 | 141 => 79 | 196 => 83 | 193 => 80 | 3 => 3 | 198 => 86 | 49 => 84 | 194 => 81 | 201 => 89 | 226 => 91 | 46 => 92 | 227 => 93 | n => n, fun | 7 => 1 | 8 => 2 | n => n⟩
theorem Tryd.lays200 : Go.Proofs.Lays.n200 Tryd.prog Tryd.lays200_ren := {
  mixed := by kernel_rfl
  f200 := Tryd.func55.trans (congrArg some (by kernel_rfl))
  f261 := Tryd.func58.trans (congrArg some (by kernel_rfl))
  f311 := Tryd.func60.trans (congrArg some (by kernel_rfl))
  f312 := Tryd.func61.trans (congrArg some (by kernel_rfl))
  t0 := Tryd.underlying0
  a0 := Tryd.isAgg0
  z0 := Tryd.sizeOf0
  v0 := Tryd.zeroValue0
  t3 := Tryd.underlying3
  a3 := Tryd.isAgg3
  z3 := Tryd.sizeOf3
  v3 := Tryd.zeroValue3
  t4 := Tryd.underlying4
  a4 := Tryd.isAgg4
  z4 := Tryd.sizeOf4
  v4 := Tryd.zeroValue4
  t5 := Tryd.underlying5
  a5 := Tryd.isAgg5
  z5 := Tryd.sizeOf5
  v5 := Tryd.zeroValue5
  t21 := Tryd.underlying21
  a21 := Tryd.isAgg21
  z21 := Tryd.sizeOf21
  v21 := Tryd.zeroValue21
  t46 := Tryd.underlying92
  a46 := Tryd.isAgg92
  z46 := Tryd.sizeOf92
  v46 := Tryd.zeroValue92
  t49 := Tryd.underlying84
  a49 := Tryd.isAgg84
  z49 := Tryd.sizeOf84
  v49 := Tryd.zeroValue84
  t51 := Tryd.underlying76
  a51 := Tryd.isAgg76
  z51 := Tryd.sizeOf76
  v51 := Tryd.zeroValue76
  t119 := Tryd.underlying77
  a119 := Tryd.isAgg77
  z119 := Tryd.sizeOf77
  t141 := Tryd.underlying79
  a141 := Tryd.isAgg79
  z141 := Tryd.sizeOf79
  v141 := Tryd.zeroValue79
  t193 := Tryd.underlying80
  a193 := Tryd.isAgg80
  z193 := Tryd.sizeOf80
  v193 := Tryd.zeroValue80
  t194 := Tryd.underlying81
  a194 := Tryd.isAgg81
  z194 := Tryd.sizeOf81
  v194 := Tryd.zeroValue81
  t196 := Tryd.underlying83
  a196 := Tryd.isAgg83
  z196 := Tryd.sizeOf83
  v196 := Tryd.zeroValue83
  t198 := Tryd.underlying86
  a198 := Tryd.isAgg86
  z198 := Tryd.sizeOf86
  v198 := Tryd.zeroValue86
  t201 := Tryd.underlying89
  a201 := Tryd.isAgg89
  z201 := Tryd.sizeOf89
  v201 := Tryd.zeroValue89
  t226 := Tryd.underlying91
  a226 := Tryd.isAgg91
  z226 := Tryd.sizeOf91
  v226 := Tryd.zeroValue91
  t227 := Tryd.underlying93
  a227 := Tryd.isAgg93
  z227 := Tryd.sizeOf93
  v227 := Tryd.zeroValue93
  g7 := by kernel_rfl
  g8 := by kernel_rfl }
open Go.RowKit Go.Lib in
theorem Tryd.unicode_IsLetter (c : Nat) (w : World) (hc : c < 256) (htab : Lib.TabIs Tryd.prog w "unicode.properties" .u8 Lib.propertiesTab) :
    Calls Tryd.prog 55 #[.int .i32 c] w fun e w' => e = .returned (.bool (Lib.isLetterL c)) ∧ w' = w := Any.unicode_IsLetter Tryd.lays200 (by kernel_rfl) c w hc htab
def Tryd.laysM200_ren : Go.Shelf.Ren := ⟨fun | 200 => 55 | 261 => 58 | 311 => 60 | 312 => 61 | n => n, fun | 21 => 21 | 4 => 4 | 51 => 76 | 5 => 5 | 119 => 77 | 0 => 0 | 141 => 79 | 196 => 83 | 193 => 80 | 3 => 3 | 198 => 86 | 49 => 84 | 194 => 81 | 201 => 89 | 226 => 91 | 46 => 92 | 227 => 93 | n => n, fun | 7 => 1 | 8 => 2 | n => n⟩
theorem Tryd.laysM200 : Go.Proofs.LaysM.n200 Tryd.prog Tryd.laysM200_ren := {
  mixed := by kernel_rfl
  f200 := Tryd.func55.trans (congrArg some (by kernel_rfl))
  f261 := Tryd.func58.trans (congrArg some (by kernel_rfl))
  f311 := Tryd.func60.trans (congrArg some (by kernel_rfl))
  f312 := Tryd.func61.trans (congrArg some (by kernel_rfl))
  t0 := Tryd.underlying0
  a0 := Tryd.isAgg0
  z0 := Tryd.sizeOf0
  v0 := Tryd.zeroValue0
  t3 := Tryd.underlying3
  a3 := Tryd.isAgg3
  z3 := Tryd.sizeOf3
  v3 := Tryd.zeroValue3
  t4 := Tryd.underlying4
  a4 := Tryd.isAgg4
  z4 := Tryd.sizeOf4
  v4 := Tryd.zeroValue4
  t5 := Tryd.underlying5
  a5 := Tryd.isAgg5
  z5 := Tryd.sizeOf5
  v5 := Tryd.zeroValue5
  t21 := Tryd.underlying21
  a21 := Tryd.isAgg21
  z21 := Tryd.sizeOf21
  v21 := Tryd.zeroValue21
  t46 := Tryd.underlying92
  a46 := Tryd.isAgg92
  z46 := Tryd.sizeOf92
  v46 := Tryd.zeroValue92
  t49 := Tryd.underlying84
  a49 := Tryd.isAgg84
  z49 := Tryd.sizeOf84
  v49 := Tryd.zeroValue84
  t51 := Tryd.underlying76
  a51 := Tryd.isAgg76
  z51 := Tryd.sizeOf76
  v51 := Tryd.zeroValue76
  t119 := Tryd.underlying77
  a119 := Tryd.isAgg77
  z119 := Tryd.sizeOf77
  t141 := Tryd.underlying79
  a141 := Tryd.isAgg79
  z141 := Tryd.sizeOf79
  v141 := Tryd.zeroValue79
  t193 := Tryd.underlying80
  a193 := Tryd.isAgg80
  z193 := Tryd.sizeOf80
  v193 := Tryd.zeroValue80
  t194 := Tryd.underlying81
  a194 := Tryd.isAgg81
  z194 := Tryd.sizeOf81
  v194 := Tryd.zeroValue81
  t196 := Tryd.underlying83
  a196 := Tryd.isAgg83
  z196 := Tryd.sizeOf83
  v196 := Tryd.zeroValue83
  t198 := Tryd.underlying86
  a198 := Tryd.isAgg86
  z198 := Tryd.sizeOf86
  v198 := Tryd.zeroValue86
  t201 := Tryd.underlying89
  a201 := Tryd.isAgg89
  z201 := Tryd.sizeOf89
  v201 := Tryd.zeroValue89
  t226 := Tryd.underlying91
  a226 := Tryd.isAgg91
  z226 := Tryd.sizeOf91
  v226 := Tryd.zeroValue91
  t227 := Tryd.underlying93
  a227 := Tryd.isAgg93
  z227 := Tryd.sizeOf93
  v227 := Tryd.zeroValue93
  g7 := by kernel_rfl
  g8 := by kernel_rfl
  i0 := by kernel_rfl
  i3 := by kernel_rfl
  i4 := by kernel_rfl
  i5 := by kernel_rfl
  i21 := by kernel_rfl
  i46 := by kernel_rfl
  i49 := by kernel_rfl
  i51 := by kernel_rfl
  i141 := by kernel_rfl
  i193 := by kernel_rfl
  i194 := by kernel_rfl
  i196 := by kernel_rfl
  i198 := by kernel_rfl
  i201 := by kernel_rfl
  i226 := by kernel_rfl
  i227 := by kernel_rfl
  m7 := by kernel_rfl
  m8 := by kernel_rfl }
open Go.RowKit Go.Lib in
theorem Tryd.unicode_IsLetter_laid (c : Nat) (w : World) (hc : c < 256) (htab : Lib.TabIs Tryd.prog w "unicode.properties" .u8 Lib.propertiesTab) :
    Calls Tryd.prog 55 #[.int .i32 c] w fun e w' => e = .returned (.bool (Lib.isLetterL c)) ∧ w' = w := Any.unicode_IsLetter_laid Tryd.laysM200 c w hc htab
def Tryd.lays311_ren : Go.Shelf.Ren := ⟨fun | 311 => 60 | n => n, fun | 193 => 80 | 49 => 84 | 4 => 4 | 3 => 3 | 0 => 0 | 226 => 91 | 198 => 86 | 46 => 92 | n => n, fun | n => n⟩
theorem Tryd.lays311 : Go.Proofs.Lays.n311 Tryd.prog Tryd.lays311_ren := {
  mixed := by kernel_rfl
  f311 := Tryd.func60.trans (congrArg some (by kernel_rfl))
  t0 := Tryd.underlying0
  a0 := Tryd.isAgg0
  z0 := Tryd.sizeOf0
  v0 := Tryd.zeroValue0
  t3 := Tryd.underlying3
  a3 := Tryd.isAgg3
  z3 := Tryd.sizeOf3
  v3 := Tryd.zeroValue3
  t4 := Tryd.underlying4
  a4 := Tryd.isAgg4
  z4 := Tryd.sizeOf4
  v4 := Tryd.zeroValue4
  t46 := Tryd.underlying92
  a46 := Tryd.isAgg92
  z46 := Tryd.sizeOf92
  v46 := Tryd.zeroValue92
  t49 := Tryd.underlying84
  a49 := Tryd.isAgg84
  z49 := Tryd.sizeOf84
  v49 := Tryd.zeroValue84
  t193 := Tryd.underlying80
  a193 := Tryd.isAgg80
  z193 := Tryd.sizeOf80
  v193 := Tryd.zeroValue80
  t198 := Tryd.underlying86
  a198 := Tryd.isAgg86
  z198 := Tryd.sizeOf86
  v198 := Tryd.zeroValue86
  t226 := Tryd.underlying91
  a226 := Tryd.isAgg91
  z226 := Tryd.sizeOf91
  v226 := Tryd.zeroValue91 }
open Go.RowKit Go.Lib in
theorem Tryd.unicode_is16_white (R oR : Nat) (z : Nat) (w : World) (hz : z < 65536) (hz0 : 255 < z) (c6 : w.cell? ⟨R, oR + 6, none⟩ = some (.int .u16 160)) (c7 : w.cell? ⟨R, oR + 7, none⟩ = some (.int .u16 5760)) (c8 : w.cell? ⟨R, oR + 8, none⟩ = some (.int .u16 5600)) (c9 : w.cell? ⟨R, oR + 9, none⟩ = some (.int .u16 8192)) (c10 : w.cell? ⟨R, oR + 10, none⟩ = some (.int .u16 8202)) (c11 : w.cell? ⟨R, oR + 11, none⟩ = some (.int .u16 1)) (c12 : w.cell? ⟨R, oR + 12, none⟩ = some (.int .u16 8232)) (c13 : w.cell? ⟨R, oR + 13, none⟩ = some (.int .u16 8233)) (c14 : w.cell? ⟨R, oR + 14, none⟩ = some (.int .u16 1)) (c15 : w.cell? ⟨R, oR + 15, none⟩ = some (.int .u16 8239)) (c16 : w.cell? ⟨R, oR + 16, none⟩ = some (.int .u16 8287)) (c17 : w.cell? ⟨R, oR + 17, none⟩ = some (.int .u16 48)) (c18 : w.cell? ⟨R, oR + 18, none⟩ = some (.int .u16 12288)) (c19 : w.cell? ⟨R, oR + 19, none⟩ = some (.int .u16 12288)) (c20 : w.cell? ⟨R, oR + 20, none⟩ = some (.int .u16 1)) :
    Calls Tryd.prog 60 #[.slice (some ⟨R, oR + 6, none⟩) 5 5, .int .u16 z] w fun e w' => e = .returned (.bool (Lib.isSpaceR z)) ∧ Below w.heap.size w w' := Any.unicode_is16_white Tryd.lays311 R oR z w hz hz0 c6 c7 c8 c9 c10 c11 c12 c13 c14 c15 c16 c17 c18 c19 c20
def Tryd.lays261_ren : Go.Shelf.Ren := ⟨fun | 261 => 58 | 311 => 60 | 312 => 61 | n => n, fun | 141 => 79 | 21 => 21 | 4 => 4 | 0 => 0 | 196 => 83 | 193 => 80 | 3 => 3 | 51 => 76 | 198 => 86 | 49 => 84 | 194 => 81 | 201 => 89 | 226 => 91 | 46 => 92 | 227 => 93 | n => n, fun | n => n⟩
theorem Tryd.lays261 : Go.Proofs.Lays.n261 Tryd.prog Tryd.lays261_ren := {
  mixed := by kernel_rfl
  f261 := Tryd.func58.trans (congrArg some (by kernel_rfl))
  f311 := Tryd.func60.trans (congrArg some (by kernel_rfl))
  f312 := Tryd.func61.trans (congrArg some (by kernel_rfl))
  t0 := Tryd.underlying0
  a0 := Tryd.isAgg0
  z0 := Tryd.sizeOf0
  v0 := Tryd.zeroValue0
  t3 := Tryd.underlying3
  a3 := Tryd.isAgg3
  z3 := Tryd.sizeOf3
  v3 := Tryd.zeroValue3
  t4 := Tryd.underlying4
  a4 := Tryd.isAgg4
  z4 := Tryd.sizeOf4
  v4 := Tryd.zeroValue4
  t21 := Tryd.underlying21
  a21 := Tryd.isAgg21
  z21 := Tryd.sizeOf21
  v21 := Tryd.zeroValue21
  t46 := Tryd.underlying92
  a46 := Tryd.isAgg92
  z46 := Tryd.sizeOf92
  v46 := Tryd.zeroValue92
  t49 := Tryd.underlying84
  a49 := Tryd.isAgg84
  z49 := Tryd.sizeOf84
  v49 := Tryd.zeroValue84
  t51 := Tryd.underlying76
  a51 := Tryd.isAgg76
  z51 := Tryd.sizeOf76
  v51 := Tryd.zeroValue76
  t141 := Tryd.underlying79
  a141 := Tryd.isAgg79
  z141 := Tryd.sizeOf79
  v141 := Tryd.zeroValue79
  t193 := Tryd.underlying80
  a193 := Tryd.isAgg80
  z193 := Tryd.sizeOf80
  v193 := Tryd.zeroValue80
  t194 := Tryd.underlying81
  a194 := Tryd.isAgg81
  z194 := Tryd.sizeOf81
  v194 := Tryd.zeroValue81
  t196 := Tryd.underlying83
  a196 := Tryd.isAgg83
  z196 := Tryd.sizeOf83
  v196 := Tryd.zeroValue83
  t198 := Tryd.underlying86
  a198 := Tryd.isAgg86
  z198 := Tryd.sizeOf86
  v198 := Tryd.zeroValue86
  t201 := Tryd.underlying89
  a201 := Tryd.isAgg89
  z201 := Tryd.sizeOf89
  v201 := Tryd.zeroValue89
  t226 := Tryd.underlying91
  a226 := Tryd.isAgg91
  z226 := Tryd.sizeOf91
  v226 := Tryd.zeroValue91
  t227 := Tryd.underlying93
  a227 := Tryd.isAgg93
  z227 := Tryd.sizeOf93
  v227 := Tryd.zeroValue93 }
open Go.RowKit Go.Lib in
/-- unicode.isExcludingLatin(White_Space, r), r beyond U+00FF or negative. (LAID: no walk: one application.) -/
theorem Tryd.unicode_isExcludingLatin_white (T oT R oR : Nat) (r : Int) (w : World) (hlo : -2147483648 ≤ r) (hhi : r ≤ 2147483647) (hr : r < 0 ∨ 255 < r) (h2 : w.cell? ⟨T, oT, none⟩ = some (.slice (some ⟨R, oR, none⟩) 7 7)) (h3 : w.cell? ⟨T, oT + 1, none⟩ = some (.slice none 0 0)) (h4 : w.cell? ⟨T, oT + 2, none⟩ = some (.int .i64 2)) (h5 : ∀ i, i < 21 → w.cell? ⟨R, oR + i, none⟩ = some (.int .u16 (whiteT.getD i 0))) :
    Calls Tryd.prog 58 #[.pointer (some ⟨T, oT, none⟩), .int .i32 r] w fun e w' => e = .returned (.bool (Lib.isSpaceZ r)) ∧ Below w.heap.size w w' := Any.unicode_isExcludingLatin_white Tryd.lays261 T oT R oR r w hlo hhi hr h2 h3 h4 h5
open Go.RowKit Go.Lib in
theorem Tryd.unicode_is16_any (T : Array Rg) (R oR cap : Nat) (z : Nat) (w : World) (hz : z < 65536) (hT : RgTab .u16 R oR T w) (hok : RgOk 65536 T) (hn : T.size ≤ 1000000000) :
    Calls Tryd.prog 60 #[.slice (some ⟨R, oR, none⟩) T.size cap, .int .u16 z] w fun e w' => e = .returned (.bool (is16Go T z)) ∧ ∃ q, w' = w.drewN q := Any.unicode_is16_any Tryd.lays311 T R oR cap z w hz hT hok hn
def Tryd.lays312_ren : Go.Shelf.Ren := ⟨fun | 312 => 61 | n => n, fun | 194 => 81 | 51 => 76 | 4 => 4 | 3 => 3 | 0 => 0 | 227 => 93 | 201 => 89 | 46 => 92 | n => n, fun | n => n⟩
theorem Tryd.lays312 : Go.Proofs.Lays.n312 Tryd.prog Tryd.lays312_ren := {
  mixed := by kernel_rfl
  f312 := Tryd.func61.trans (congrArg some (by kernel_rfl))
  t0 := Tryd.underlying0
  a0 := Tryd.isAgg0
  z0 := Tryd.sizeOf0
  v0 := Tryd.zeroValue0
  t3 := Tryd.underlying3
  a3 := Tryd.isAgg3
  z3 := Tryd.sizeOf3
  v3 := Tryd.zeroValue3
  t4 := Tryd.underlying4
  a4 := Tryd.isAgg4
  z4 := Tryd.sizeOf4
  v4 := Tryd.zeroValue4
  t46 := Tryd.underlying92
  a46 := Tryd.isAgg92
  z46 := Tryd.sizeOf92
  v46 := Tryd.zeroValue92
  t51 := Tryd.underlying76
  a51 := Tryd.isAgg76
  z51 := Tryd.sizeOf76
  v51 := Tryd.zeroValue76
  t194 := Tryd.underlying81
  a194 := Tryd.isAgg81
  z194 := Tryd.sizeOf81
  v194 := Tryd.zeroValue81
  t201 := Tryd.underlying89
  a201 := Tryd.isAgg89
  z201 := Tryd.sizeOf89
  v201 := Tryd.zeroValue89
  t227 := Tryd.underlying93
  a227 := Tryd.isAgg93
  z227 := Tryd.sizeOf93
  v227 := Tryd.zeroValue93 }
open Go.RowKit Go.Lib in
theorem Tryd.unicode_is32_any (T : Array Rg) (R oR cap : Nat) (z : Nat) (w : World) (hz : z < 4294967296) (hT : RgTab .u32 R oR T w) (hok : RgOk 4294967296 T) (hn : T.size ≤ 1000000000) :
    Calls Tryd.prog 61 #[.slice (some ⟨R, oR, none⟩) T.size cap, .int .u32 z] w fun e w' => e = .returned (.bool (is32Go T z)) ∧ Below w.heap.size w w' := Any.unicode_is32_any Tryd.lays312 T R oR cap z w hz hT hok hn
open Go.RowKit Go.Lib in
theorem Tryd.unicode_isExcludingLatin_any (Tb oT : Nat) (T : RTab) (r : Int) (w : World) (hlo : -2147483648 ≤ r) (hhi : r ≤ 2147483647) (hA : RTabAt Tb oT T w) (hok : RTabOk T) :
    Calls Tryd.prog 58 #[.pointer (some ⟨Tb, oT, none⟩), .int .i32 r] w fun e w' => e = .returned (.bool (exclGo T r)) ∧ Below w.heap.size w w' := Any.unicode_isExcludingLatin_any Tryd.lays261 Tb oT T r w hlo hhi hA hok
open Go.RowKit Go.Lib in
/-- unicode.IsLetter(r) AT EVERY int32, over whatever table the variable unicode.Letter leads to. (LAID: no walk: one application.) -/
theorem Tryd.unicode_IsLetter_any (T : RTab) (r : Int) (w : World) (hlo : -2147483648 ≤ r) (hhi : r ≤ 2147483647) (htab : Lib.TabIs Tryd.prog w "unicode.properties" .u8 Lib.propertiesTab) (hV : RVar 2 T w) (hok : RTabOk T) :
    Calls Tryd.prog 55 #[.int .i32 r] w fun e w' => e = .returned (.bool (if latin1 r then isLetterL r else exclGo T r)) ∧ Below w.heap.size w w' := Any.unicode_IsLetter_any Tryd.lays200 (by kernel_rfl) T r w hlo hhi htab hV hok
open Go.RowKit Go.Lib in
/-- unicode.IsDigit(r) AT EVERY int32, over whatever table the variable unicode.Digit leads to. (LAID: no walk: one application.) -/
theorem Tryd.unicode_IsDigit_any (T : RTab) (r : Int) (w : World) (hlo : -2147483648 ≤ r) (hhi : r ≤ 2147483647) (hV : RVar 3 T w) (hok : RTabOk T) :
    Calls Tryd.prog 56 #[.int .i32 r] w fun e w' => e = .returned (.bool (if r ≤ 255 then isDigitL r else exclGo T r)) ∧ Below w.heap.size w w' := Any.unicode_IsDigit_any Tryd.lays198 T r w hlo hhi hV hok
open Go.RowKit Go.Lib in
theorem Tryd.strings_indexFunc_grows (g : Nat) (lb : Array Value) (eg : ∀ args w, (callFunc g args).run Tryd.prog w = .ok (.enter g args) w) (p : Nat → Bool) (truth : Bool) (s : ByteArray) (w : World) (hp : PredGrows Tryd.prog g lb p w) :
    Calls Tryd.prog 54 #[.string s, .func (.func g) #[] lb, .bool truth] w fun e w' => e = .returned (.int .i64 (Lib.idxFunc p truth s)) ∧ Below w.heap.size w w' := Any.strings_indexFunc_grows Tryd.lays315 g lb eg p truth s w hp
open Go.RowKit Go.Lib in
theorem Tryd.strings_IndexFunc_grows (g : Nat) (lb : Array Value) (eg : ∀ args w, (callFunc g args).run Tryd.prog w = .ok (.enter g args) w) (p : Nat → Bool) (s : ByteArray) (w : World) (hp : PredGrows Tryd.prog g lb p w) :
    Calls Tryd.prog 47 #[.string s, .func (.func g) #[] lb] w fun e w' => e = .returned (.int .i64 (Lib.idxFunc p true s)) ∧ Below w.heap.size w w' := Any.strings_IndexFunc_grows Tryd.laysGw15 g lb eg p s w hp
open Go.RowKit Go.Lib in
/-- unicode.IsLetter(r) AT EVERY int32, the tables as their initialisers lay them: 'Lib.isLetterU r'. (LAID: no walk: one application.) -/
theorem Tryd.unicode_IsLetter_all (r : Int) (w : World) (hlo : -2147483648 ≤ r) (hhi : r ≤ 2147483647) (htab : Lib.TabIs Tryd.prog w "unicode.properties" .u8 Lib.propertiesTab) (hV : RVar 2 letterT w) :
    Calls Tryd.prog 55 #[.int .i32 r] w fun e w' => e = .returned (.bool (isLetterU r)) ∧ Below w.heap.size w w' := Any.unicode_IsLetter_all Tryd.lays200 (by kernel_rfl) r w hlo hhi htab hV
open Go.RowKit Go.Lib in
/-- unicode.IsDigit(r) AT EVERY int32: 'Lib.isDigitU r'. (LAID: no walk: one application.) -/
theorem Tryd.unicode_IsDigit_all (r : Int) (w : World) (hlo : -2147483648 ≤ r) (hhi : r ≤ 2147483647) (hV : RVar 3 digitT w) :
    Calls Tryd.prog 56 #[.int .i32 r] w fun e w' => e = .returned (.bool (isDigitU r)) ∧ Below w.heap.size w w' := Any.unicode_IsDigit_all Tryd.lays198 r w hlo hhi hV
end Go.Proofs
