/-
  DERIVED: THE SHELF's CONTRACTS AT THIS DUMP, IN PLAIN WORDS (tools/lay-plain.mjs out of 'TrydShelf.lean', which tools/lay-shelf.mjs wrote): THE SAME DECLARATIONS UNDER THE SAME NAMES: 'import', 'namespace', 'open', 'def', 'theorem' AND NOTHING ELSE: no command of the shelf's: FOR A HAND-IN. Each laying: the table of numbers ('.._ren') and one theorem, a field a fact of the dump's own or the kernel's comparison; each contract: ONE APPLICATION.
-/
import Derived.Shelf.Small.Utf8
import Derived.Shelf.Strconv.Bsearch
import Derived.Shelf.Strconv.Itoa0
import Derived.Shelf.Strconv.Itoa1
import Derived.Shelf.LaysM
import Derived.Shelf.Strconv.Itoa2
import Derived.Shelf.Strconv.Itoa3
import Derived.Shelf.Strconv.ParseIntEmpty
import Derived.Shelf.Strconv.Clone
import Derived.Shelf.Strconv.SyntaxError
import Derived.Shelf.LaysC
import Derived.Shelf.Strconv.ToError
import Derived.Shelf.Strconv.Lower
import Derived.Shelf.Strconv.ParseUint10
import Derived.Shelf.Strconv.ParseUint10Empty
import Derived.Shelf.Strconv.ParseUint10Any
import Derived.Shelf.Strconv.ParseInt10
import Derived.Shelf.Strconv.RangeError
import Derived.Shelf.Strconv.ToErrorRange
import Derived.Shelf.Strconv.ParseUintEmpty
import Derived.Shelf.Strconv.ParseUint10b64
import Derived.Shelf.Strconv.ParseUint10b32
import Derived.Shelf.Strconv.ParseUint10b16
import Derived.Shelf.Strconv.ParseUint10b8
import Derived.Shelf.Strconv.ParseUint10At
import Derived.Shelf.Strconv.ParseInt10At64
import Derived.Shelf.Strconv.ParseInt10At32
import Derived.Shelf.Strconv.ParseInt10At16
import Derived.Shelf.Strconv.ParseInt10At8
import Derived.Shelf.Strconv.ParseInt10All
import Derived.Shelf.Strconv.ParseIntPublic10
import Derived.Shelf.Unicode.Decode
import Derived.Shelf.Unicode.DecodeSlow
import Derived.Shelf.Unicode.DecodeAny
import Derived.Shelf.Bytes.SlSmallAll
import Derived.Shelf.Bytes.Small
import Derived.Test.YtackciefmdiphaaDoorProg
namespace Go.Proofs
open Go.Shelf
def Tryd.lays119_ren : Go.Shelf.Ren := ⟨fun | 119 => 113 | n => n, fun | 21 => 21 | 4 => 4 | n => n, fun | n => n⟩
theorem Tryd.lays119 : Go.Proofs.Lays.n119 Tryd.prog Tryd.lays119_ren := {
  mixed := by kernel_rfl
  f119 := Tryd.func113.trans (congrArg some (by kernel_rfl))
  t4 := Tryd.underlying4
  a4 := Tryd.isAgg4
  z4 := Tryd.sizeOf4
  v4 := Tryd.zeroValue4
  t21 := Tryd.underlying21
  a21 := Tryd.isAgg21
  z21 := Tryd.sizeOf21
  v21 := Tryd.zeroValue21 }
/-- utf8.ValidRune: "ValidRune reports whether r can be legally encoded as UTF-8. Code points that are out of range or a surrogate half are illegal.": IT RETURNS 'Lib.validRune r'; the world is as it was. (LAID: no walk: one application.) -/
theorem Tryd.utf8_ValidRune (r : Int) (w : World) :
    Calls Tryd.prog 113 #[.int .i32 r] w fun e w' => e = .returned (.bool (Lib.validRune r)) ∧ w' = w := Any.utf8_ValidRune Tryd.lays119 r w
def Tryd.lays345_ren : Go.Shelf.Ren := ⟨fun | 345 => 114 | n => n, fun | 234 => 154 | 49 => 153 | 3 => 3 | 4 => 4 | 46 => 32 | 0 => 0 | n => n, fun | n => n⟩
theorem Tryd.lays345 : Go.Proofs.Lays.n345 Tryd.prog Tryd.lays345_ren := {
  mixed := by kernel_rfl
  f345 := Tryd.func114.trans (congrArg some (by kernel_rfl))
  t0 := Tryd.underlying0
  a0 := Tryd.isAgg0
  z0 := Tryd.sizeOf0
  v0 := Tryd.zeroValue0
  t3 := Tryd.underlying3
  a3 := Tryd.isAgg3
  z3 := Tryd.sizeOf3
  v3 := Tryd.zeroValue3
  t4 := Tryd.underlying4
  a4 := Tryd.isAgg4
  z4 := Tryd.sizeOf4
  v4 := Tryd.zeroValue4
  t46 := Tryd.underlying32
  a46 := Tryd.isAgg32
  z46 := Tryd.sizeOf32
  v46 := Tryd.zeroValue32
  t49 := Tryd.underlying153
  a49 := Tryd.isAgg153
  z49 := Tryd.sizeOf153
  v49 := Tryd.zeroValue153
  t234 := Tryd.underlying154
  a234 := Tryd.isAgg154
  z234 := Tryd.sizeOf154
  v234 := Tryd.zeroValue154 }
open Go.RowKit in
/-- strconv.bsearch[[]uint16,uint16]: a table of whatever numbers (sorted or not: WHAT IS SAID IS WHAT THE LOOP COMPUTES: 'Lib.bsearchI', 'Lib.bsearchFound'), at least one of them; draws alone (the last statement's order); nothing else turns. (LAID: no walk: one application.) -/
theorem Tryd.strconv_bsearch16 (R o c : Nat) (t : List Nat) (v : Nat) (w : World) (h0 : 0 < t.length) (hn : t.length ≤ 4611686018427387904) (hc : ∀ j, j < t.length → w.cell? ⟨R, o + j, none⟩ = some (.int .u16 (t.getD j 0))) :
    Calls Tryd.prog 114 #[.slice (some ⟨R, o, none⟩) t.length c, .int .u16 v] w fun e w' => e = .returned (.tuple #[.int .i64 (Lib.bsearchI t v), .bool (Lib.bsearchFound t v)]) ∧ ∃ q, w' = w.drewN q := Any.strconv_bsearch16 Tryd.lays345 R o c t v w h0 hn hc
def Tryd.lays346_ren : Go.Shelf.Ren := ⟨fun | 346 => 115 | n => n, fun | 236 => 157 | 51 => 129 | 3 => 3 | 4 => 4 | 46 => 32 | 0 => 0 | n => n, fun | n => n⟩
theorem Tryd.lays346 : Go.Proofs.Lays.n346 Tryd.prog Tryd.lays346_ren := {
  mixed := by kernel_rfl
  f346 := Tryd.func115.trans (congrArg some (by kernel_rfl))
  t0 := Tryd.underlying0
  a0 := Tryd.isAgg0
  z0 := Tryd.sizeOf0
  v0 := Tryd.zeroValue0
  t3 := Tryd.underlying3
  a3 := Tryd.isAgg3
  z3 := Tryd.sizeOf3
  v3 := Tryd.zeroValue3
  t4 := Tryd.underlying4
  a4 := Tryd.isAgg4
  z4 := Tryd.sizeOf4
  v4 := Tryd.zeroValue4
  t46 := Tryd.underlying32
  a46 := Tryd.isAgg32
  z46 := Tryd.sizeOf32
  v46 := Tryd.zeroValue32
  t51 := Tryd.underlying129
  a51 := Tryd.isAgg129
  z51 := Tryd.sizeOf129
  v51 := Tryd.zeroValue129
  t236 := Tryd.underlying157
  a236 := Tryd.isAgg157
  z236 := Tryd.sizeOf157
  v236 := Tryd.zeroValue157 }
open Go.RowKit in
/-- strconv.bsearch[[]uint32,uint32]: a table of whatever numbers (sorted or not: WHAT IS SAID IS WHAT THE LOOP COMPUTES: 'Lib.bsearchI', 'Lib.bsearchFound'), at least one of them; draws alone (the last statement's order); nothing else turns. (LAID: no walk: one application.) -/
theorem Tryd.strconv_bsearch32 (R o c : Nat) (t : List Nat) (v : Nat) (w : World) (h0 : 0 < t.length) (hn : t.length ≤ 4611686018427387904) (hc : ∀ j, j < t.length → w.cell? ⟨R, o + j, none⟩ = some (.int .u32 (t.getD j 0))) :
    Calls Tryd.prog 115 #[.slice (some ⟨R, o, none⟩) t.length c, .int .u32 v] w fun e w' => e = .returned (.tuple #[.int .i64 (Lib.bsearchI t v), .bool (Lib.bsearchFound t v)]) ∧ ∃ q, w' = w.drewN q := Any.strconv_bsearch32 Tryd.lays346 R o c t v w h0 hn hc
def Tryd.lays129_ren : Go.Shelf.Ren := ⟨fun | 129 => 80 | n => n, fun | 53 => 108 | 3 => 3 | 4 => 4 | 46 => 32 | 5 => 5 | 9 => 9 | n => n, fun | n => n⟩
theorem Tryd.lays129 : Go.Proofs.Lays.n129 Tryd.prog Tryd.lays129_ren := {
  mixed := by kernel_rfl
  f129 := Tryd.func80.trans (congrArg some (by kernel_rfl))
  t3 := Tryd.underlying3
  a3 := Tryd.isAgg3
  z3 := Tryd.sizeOf3
  v3 := Tryd.zeroValue3
  t4 := Tryd.underlying4
  a4 := Tryd.isAgg4
  z4 := Tryd.sizeOf4
  v4 := Tryd.zeroValue4
  t5 := Tryd.underlying5
  a5 := Tryd.isAgg5
  z5 := Tryd.sizeOf5
  v5 := Tryd.zeroValue5
  t9 := Tryd.underlying9
  a9 := Tryd.isAgg9
  z9 := Tryd.sizeOf9
  v9 := Tryd.zeroValue9
  t46 := Tryd.underlying32
  a46 := Tryd.isAgg32
  z46 := Tryd.sizeOf32
  v46 := Tryd.zeroValue32
  t53 := Tryd.underlying108
  a53 := Tryd.isAgg108
  z53 := Tryd.sizeOf108
  v53 := Tryd.zeroValue108 }
/-- bits.Len64: "Len64 returns the minimum number of bits required to represent x; the result is 0 for x == 0.": IT RETURNS 'Lib.bitLen x'; the world is as it was. ('h0', 'h1': x is a uint64.) (LAID: no walk: one application.) -/
theorem Tryd.bits_Len64 (x : Int) (w : World) (h0 : 0 ≤ x) (h1 : x ≤ 18446744073709551615) :
    Calls Tryd.prog 80 #[.int .u64 x] w fun e w' => e = .returned (.int .i64 (Lib.bitLen x.toNat)) ∧ w' = w := Any.bits_Len64 Tryd.lays129 x w h0 h1
def Tryd.lays317_ren : Go.Shelf.Ren := ⟨fun | 317 => 79 | n => n, fun | 3 => 3 | 46 => 32 | n => n, fun | n => n⟩
theorem Tryd.lays317 : Go.Proofs.Lays.n317 Tryd.prog Tryd.lays317_ren := {
  mixed := by kernel_rfl
  f317 := Tryd.func79.trans (congrArg some (by kernel_rfl))
  t3 := Tryd.underlying3
  a3 := Tryd.isAgg3
  z3 := Tryd.sizeOf3
  v3 := Tryd.zeroValue3
  t46 := Tryd.underlying32
  a46 := Tryd.isAgg32
  z46 := Tryd.sizeOf32
  v46 := Tryd.zeroValue32 }
open Go.Lib in
/-- internal/strconv.log10Pow2: "log10Pow2(x) returns ⌊log₁₀ 2**x⌋ = ⌊x * log₁₀ 2⌋.": '(x * 78913) >> 18', at an x up to 64 (a length in bits). The world is as it was. (LAID: no walk: one application.) -/
theorem Tryd.internal_strconv_log10Pow2 (x : Nat) (h : x ≤ 64) (w : World) :
    Calls Tryd.prog 79 #[.int .i64 x] w fun e w' => e = .returned (.int .i64 (Lib.l10 x)) ∧ w' = w := Any.internal_strconv_log10Pow2 Tryd.lays317 x h w
def Tryd.lays318_ren : Go.Shelf.Ren := ⟨fun | 318 => 81 | n => n, fun | 3 => 3 | 4 => 4 | n => n, fun | n => n⟩
theorem Tryd.lays318 : Go.Proofs.Lays.n318 Tryd.prog Tryd.lays318_ren := {
  mixed := by kernel_rfl
  f318 := Tryd.func81.trans (congrArg some (by kernel_rfl))
  t3 := Tryd.underlying3
  a3 := Tryd.isAgg3
  z3 := Tryd.sizeOf3
  v3 := Tryd.zeroValue3
  t4 := Tryd.underlying4
  a4 := Tryd.isAgg4
  z4 := Tryd.sizeOf4
  v4 := Tryd.zeroValue4 }
open Go.Lib in
/-- internal/strconv.bool2: "bool2 converts b to an integer: 1 for true, 0 for false." The world is as it was. (LAID: no walk: one application.) -/
theorem Tryd.internal_strconv_bool2_int (b : Bool) (w : World) :
    Calls Tryd.prog 81 #[.bool b] w fun e w' => e = .returned (.int .i64 (if b then 1 else 0)) ∧ w' = w := Any.internal_strconv_bool2_int Tryd.lays318 b w
def Tryd.lays283_ren : Go.Shelf.Ren := ⟨fun | 283 => 75 | n => n, fun | 3 => 3 | 9 => 9 | 4 => 4 | n => n, fun | n => n⟩
theorem Tryd.lays283 : Go.Proofs.Lays.n283 Tryd.prog Tryd.lays283_ren := {
  mixed := by kernel_rfl
  f283 := Tryd.func75.trans (congrArg some (by kernel_rfl))
  t3 := Tryd.underlying3
  a3 := Tryd.isAgg3
  z3 := Tryd.sizeOf3
  v3 := Tryd.zeroValue3
  t4 := Tryd.underlying4
  a4 := Tryd.isAgg4
  z4 := Tryd.sizeOf4
  v4 := Tryd.zeroValue4
  t9 := Tryd.underlying9
  a9 := Tryd.isAgg9
  z9 := Tryd.sizeOf9
  v9 := Tryd.zeroValue9 }
open Go.Lib in
/-- internal/strconv.small: "small returns the string for an i with 0 <= i < nSmalls.": i's decimal numeral. The world is as it was. (LAID: no walk: one application.) -/
theorem Tryd.internal_strconv_small (i : Nat) (h : i < 100) (w : World) :
    Calls Tryd.prog 75 #[.int .i64 i] w fun e w' => e = .returned (.string ⟨(Lib.decDigits i).toArray⟩) ∧ w' = w := Any.internal_strconv_small Tryd.lays283 i h w
def Tryd.laysM284_ren : Go.Shelf.Ren := ⟨fun | 284 => 76 | 129 => 80 | 317 => 79 | 318 => 81 | n => n, fun | 53 => 108 | 3 => 3 | 212 => 128 | 0 => 0 | 4 => 4 | 46 => 32 | 5 => 5 | 9 => 9 | n => n, fun | 17 => 4 | n => n⟩
theorem Tryd.laysM284 : Go.Proofs.LaysM.n284 Tryd.prog Tryd.laysM284_ren := {
  mixed := by kernel_rfl
  f129 := Tryd.func80.trans (congrArg some (by kernel_rfl))
  f284 := Tryd.func76.trans (congrArg some (by kernel_rfl))
  f317 := Tryd.func79.trans (congrArg some (by kernel_rfl))
  f318 := Tryd.func81.trans (congrArg some (by kernel_rfl))
  t0 := Tryd.underlying0
  a0 := Tryd.isAgg0
  z0 := Tryd.sizeOf0
  v0 := Tryd.zeroValue0
  t3 := Tryd.underlying3
  a3 := Tryd.isAgg3
  z3 := Tryd.sizeOf3
  v3 := Tryd.zeroValue3
  t4 := Tryd.underlying4
  a4 := Tryd.isAgg4
  z4 := Tryd.sizeOf4
  v4 := Tryd.zeroValue4
  t5 := Tryd.underlying5
  a5 := Tryd.isAgg5
  z5 := Tryd.sizeOf5
  v5 := Tryd.zeroValue5
  t9 := Tryd.underlying9
  a9 := Tryd.isAgg9
  z9 := Tryd.sizeOf9
  v9 := Tryd.zeroValue9
  t46 := Tryd.underlying32
  a46 := Tryd.isAgg32
  z46 := Tryd.sizeOf32
  v46 := Tryd.zeroValue32
  t53 := Tryd.underlying108
  a53 := Tryd.isAgg108
  z53 := Tryd.sizeOf108
  v53 := Tryd.zeroValue108
  t212 := Tryd.underlying128
  a212 := Tryd.isAgg128
  z212 := Tryd.sizeOf128
  v212 := Tryd.zeroValue128
  g17 := by kernel_rfl
  i0 := by kernel_rfl
  i3 := by kernel_rfl
  i4 := by kernel_rfl
  i5 := by kernel_rfl
  i9 := by kernel_rfl
  i46 := by kernel_rfl
  i53 := by kernel_rfl
  i212 := by kernel_rfl
  m17 := by kernel_rfl }
open Go.Lib in
/-- internal/strconv.numDigits, at a d that is not 0: THE NUMBER OF d's DECIMAL DIGITS. The world is as it was. (LAID: no walk: one application.) -/
theorem Tryd.internal_strconv_numDigits (u : Nat) (h1 : 1 ≤ u) (h2 : u < 18446744073709551616) (w : World) (htab : Lib.TabIs Tryd.prog w "internal/strconv.uint64pow10" .u64 Lib.pow10Tab) :
    Calls Tryd.prog 76 #[.int .u64 u] w fun e w' => e = .returned (.int .i64 (Lib.nDigits u)) ∧ w' = w := Any.internal_strconv_numDigits Tryd.laysM284 u h1 h2 w htab
def Tryd.lays285_ren : Go.Shelf.Ren := ⟨fun | 285 => 77 | n => n, fun | 37 => 41 | 53 => 108 | 3 => 3 | 4 => 4 | 51 => 129 | 9 => 9 | 5 => 5 | 0 => 0 | n => n, fun | n => n⟩
theorem Tryd.lays285 : Go.Proofs.Lays.n285 Tryd.prog Tryd.lays285_ren := {
  mixed := by kernel_rfl
  f285 := Tryd.func77.trans (congrArg some (by kernel_rfl))
  t0 := Tryd.underlying0
  a0 := Tryd.isAgg0
  z0 := Tryd.sizeOf0
  v0 := Tryd.zeroValue0
  t3 := Tryd.underlying3
  a3 := Tryd.isAgg3
  z3 := Tryd.sizeOf3
  v3 := Tryd.zeroValue3
  t4 := Tryd.underlying4
  a4 := Tryd.isAgg4
  z4 := Tryd.sizeOf4
  v4 := Tryd.zeroValue4
  t5 := Tryd.underlying5
  a5 := Tryd.isAgg5
  z5 := Tryd.sizeOf5
  v5 := Tryd.zeroValue5
  t9 := Tryd.underlying9
  a9 := Tryd.isAgg9
  z9 := Tryd.sizeOf9
  v9 := Tryd.zeroValue9
  t37 := Tryd.underlying41
  a37 := Tryd.isAgg41
  z37 := Tryd.sizeOf41
  v37 := Tryd.zeroValue41
  t51 := Tryd.underlying129
  a51 := Tryd.isAgg129
  z51 := Tryd.sizeOf129
  v51 := Tryd.zeroValue129
  t53 := Tryd.underlying108
  a53 := Tryd.isAgg108
  z53 := Tryd.sizeOf108
  v53 := Tryd.zeroValue108 }
open Go.RowKit Go.Sort Go.Lib in
/-- internal/strconv.formatBase10: "formatBase10 formats the decimal representation of u into a. The caller is responsible for ensuring that a is big enough to hold u. If a is too big, leading zeros will be filled in as needed.": THE ROW HOLDS u's DIGITS ('FmtInv .. 0 ..': every place t holds 'dg u (len - 1 - t)'); all else is as it was but for the count of draws. (LAID: no walk: one application.) -/
theorem Tryd.internal_strconv_formatBase10 (blk off cap : Nat) (u : Nat) (d : Array UInt8) (w : World) (hH : Holds (fun (b : UInt8) => Value.int .u8 (b.toNat : Int)) w blk off d) (hu : u < 10 ^ d.size) (hu64 : u < 18446744073709551616) (hsz : d.size < 4611686018427387904) :
    Calls Tryd.prog 77 #[.slice (some ⟨blk, off, none⟩) d.size cap, .int .u64 u] w fun e w' =>
      e = .returned (.tuple #[]) ∧ ∃ (n v' : Nat) (dk : Array UInt8), w' = (putRow (fun (b : UInt8) => Value.int .u8 (b.toNat : Int)) w blk off dk).drewN n ∧ FmtInv d.size u 0 v' dk := Any.internal_strconv_formatBase10 Tryd.lays285 blk off cap u d w hH hu hu64 hsz
def Tryd.laysM246_ren : Go.Shelf.Ren := ⟨fun | 246 => 74 | 283 => 75 | 284 => 76 | 285 => 77 | 286 => 78 | 129 => 80 | 317 => 79 | 318 => 81 | 319 => 82 | 320 => 83 | 337 => 84 | 338 => 85 | n => n, fun | 2 => 2 | 3 => 3 | 9 => 9 | 4 => 4 | 171 => 121 | 0 => 0 | 53 => 108 | 37 => 41 | 5 => 5 | 173 => 124 | 212 => 128 | 51 => 129 | 20 => 20 | 213 => 130 | 46 => 32 | 232 => 134 | 233 => 135 | n => n, fun | 17 => 4 | 18 => 5 | 19 => 6 | n => n⟩
theorem Tryd.laysM246 : Go.Proofs.LaysM.n246 Tryd.prog Tryd.laysM246_ren := {
  mixed := by kernel_rfl
  f129 := Tryd.func80.trans (congrArg some (by kernel_rfl))
  f246 := Tryd.func74.trans (congrArg some (by kernel_rfl))
  f283 := Tryd.func75.trans (congrArg some (by kernel_rfl))
  f284 := Tryd.func76.trans (congrArg some (by kernel_rfl))
  f285 := Tryd.func77.trans (congrArg some (by kernel_rfl))
  f286 := Tryd.func78.trans (congrArg some (by kernel_rfl))
  f317 := Tryd.func79.trans (congrArg some (by kernel_rfl))
  f318 := Tryd.func81.trans (congrArg some (by kernel_rfl))
  f319 := Tryd.func82.trans (congrArg some (by kernel_rfl))
  f320 := Tryd.func83.trans (congrArg some (by kernel_rfl))
  f337 := Tryd.func84.trans (congrArg some (by kernel_rfl))
  f338 := Tryd.func85.trans (congrArg some (by kernel_rfl))
  t0 := Tryd.underlying0
  a0 := Tryd.isAgg0
  z0 := Tryd.sizeOf0
  v0 := Tryd.zeroValue0
  t2 := Tryd.underlying2
  a2 := Tryd.isAgg2
  z2 := Tryd.sizeOf2
  v2 := Tryd.zeroValue2
  t3 := Tryd.underlying3
  a3 := Tryd.isAgg3
  z3 := Tryd.sizeOf3
  v3 := Tryd.zeroValue3
  t4 := Tryd.underlying4
  a4 := Tryd.isAgg4
  z4 := Tryd.sizeOf4
  v4 := Tryd.zeroValue4
  t5 := Tryd.underlying5
  a5 := Tryd.isAgg5
  z5 := Tryd.sizeOf5
  v5 := Tryd.zeroValue5
  t9 := Tryd.underlying9
  a9 := Tryd.isAgg9
  z9 := Tryd.sizeOf9
  v9 := Tryd.zeroValue9
  t20 := Tryd.underlying20
  a20 := Tryd.isAgg20
  z20 := Tryd.sizeOf20
  v20 := Tryd.zeroValue20
  t37 := Tryd.underlying41
  a37 := Tryd.isAgg41
  z37 := Tryd.sizeOf41
  v37 := Tryd.zeroValue41
  t46 := Tryd.underlying32
  a46 := Tryd.isAgg32
  z46 := Tryd.sizeOf32
  v46 := Tryd.zeroValue32
  t51 := Tryd.underlying129
  a51 := Tryd.isAgg129
  z51 := Tryd.sizeOf129
  v51 := Tryd.zeroValue129
  t53 := Tryd.underlying108
  a53 := Tryd.isAgg108
  z53 := Tryd.sizeOf108
  v53 := Tryd.zeroValue108
  t171 := Tryd.underlying121
  a171 := Tryd.isAgg121
  z171 := Tryd.sizeOf121
  v171 := Tryd.zeroValue121
  t173 := Tryd.underlying124
  a173 := Tryd.isAgg124
  z173 := Tryd.sizeOf124
  v173 := Tryd.zeroValue124
  t212 := Tryd.underlying128
  a212 := Tryd.isAgg128
  z212 := Tryd.sizeOf128
  v212 := Tryd.zeroValue128
  t213 := Tryd.underlying130
  a213 := Tryd.isAgg130
  z213 := Tryd.sizeOf130
  t232 := Tryd.underlying134
  a232 := Tryd.isAgg134
  z232 := Tryd.sizeOf134
  v232 := Tryd.zeroValue134
  t233 := Tryd.underlying135
  a233 := Tryd.isAgg135
  z233 := Tryd.sizeOf135
  v233 := Tryd.zeroValue135
  g17 := by kernel_rfl
  g18 := by kernel_rfl
  g19 := by kernel_rfl
  i0 := by kernel_rfl
  i2 := by kernel_rfl
  i3 := by kernel_rfl
  i4 := by kernel_rfl
  i5 := by kernel_rfl
  i9 := by kernel_rfl
  i20 := by kernel_rfl
  i37 := by kernel_rfl
  i46 := by kernel_rfl
  i51 := by kernel_rfl
  i53 := by kernel_rfl
  i171 := by kernel_rfl
  i173 := by kernel_rfl
  i212 := by kernel_rfl
  i232 := by kernel_rfl
  i233 := by kernel_rfl
  m17 := by kernel_rfl
  m18 := by kernel_rfl
  m19 := by kernel_rfl }
open Go.RowKit Go.Sort Go.Lib in
/-- internal/strconv.FormatInt: "FormatInt returns the string representation of i in the given base": AT BASE 10: i's decimal numeral, for every int64. The world behind the call: the world before it, new blocks behind the heap, draws. (LAID: no walk: one application.) -/
theorem Tryd.internal_strconv_FormatInt_10 (n : Int) (h0 : -9223372036854775808 ≤ n) (h1 : n ≤ 9223372036854775807) (w : World) (htab : Lib.TabIs Tryd.prog w "internal/strconv.uint64pow10" .u64 Lib.pow10Tab) :
    Calls Tryd.prog 74 #[.int .i64 n, .int .i64 10] w fun e w' => e = .returned (.string ⟨(Lib.itoa n).toArray⟩) ∧ ∃ k os, w' = grow (w.drewN k) os := Any.internal_strconv_FormatInt_10 Tryd.laysM246 n h0 h1 w htab
def Tryd.lays246_ren : Go.Shelf.Ren := ⟨fun | 246 => 74 | 283 => 75 | 284 => 76 | 285 => 77 | 286 => 78 | 129 => 80 | 317 => 79 | 318 => 81 | 319 => 82 | 320 => 83 | 337 => 84 | 338 => 85 | n => n, fun | 2 => 2 | 3 => 3 | 9 => 9 | 4 => 4 | 171 => 121 | 0 => 0 | 53 => 108 | 37 => 41 | 5 => 5 | 173 => 124 | 212 => 128 | 51 => 129 | 20 => 20 | 213 => 130 | 46 => 32 | 232 => 134 | 233 => 135 | n => n, fun | 17 => 4 | 18 => 5 | 19 => 6 | n => n⟩
theorem Tryd.lays246 : Go.Proofs.Lays.n246 Tryd.prog Tryd.lays246_ren := {
  mixed := by kernel_rfl
  f129 := Tryd.func80.trans (congrArg some (by kernel_rfl))
  f246 := Tryd.func74.trans (congrArg some (by kernel_rfl))
  f283 := Tryd.func75.trans (congrArg some (by kernel_rfl))
  f284 := Tryd.func76.trans (congrArg some (by kernel_rfl))
  f285 := Tryd.func77.trans (congrArg some (by kernel_rfl))
  f286 := Tryd.func78.trans (congrArg some (by kernel_rfl))
  f317 := Tryd.func79.trans (congrArg some (by kernel_rfl))
  f318 := Tryd.func81.trans (congrArg some (by kernel_rfl))
  f319 := Tryd.func82.trans (congrArg some (by kernel_rfl))
  f320 := Tryd.func83.trans (congrArg some (by kernel_rfl))
  f337 := Tryd.func84.trans (congrArg some (by kernel_rfl))
  f338 := Tryd.func85.trans (congrArg some (by kernel_rfl))
  t0 := Tryd.underlying0
  a0 := Tryd.isAgg0
  z0 := Tryd.sizeOf0
  v0 := Tryd.zeroValue0
  t2 := Tryd.underlying2
  a2 := Tryd.isAgg2
  z2 := Tryd.sizeOf2
  v2 := Tryd.zeroValue2
  t3 := Tryd.underlying3
  a3 := Tryd.isAgg3
  z3 := Tryd.sizeOf3
  v3 := Tryd.zeroValue3
  t4 := Tryd.underlying4
  a4 := Tryd.isAgg4
  z4 := Tryd.sizeOf4
  v4 := Tryd.zeroValue4
  t5 := Tryd.underlying5
  a5 := Tryd.isAgg5
  z5 := Tryd.sizeOf5
  v5 := Tryd.zeroValue5
  t9 := Tryd.underlying9
  a9 := Tryd.isAgg9
  z9 := Tryd.sizeOf9
  v9 := Tryd.zeroValue9
  t20 := Tryd.underlying20
  a20 := Tryd.isAgg20
  z20 := Tryd.sizeOf20
  v20 := Tryd.zeroValue20
  t37 := Tryd.underlying41
  a37 := Tryd.isAgg41
  z37 := Tryd.sizeOf41
  v37 := Tryd.zeroValue41
  t46 := Tryd.underlying32
  a46 := Tryd.isAgg32
  z46 := Tryd.sizeOf32
  v46 := Tryd.zeroValue32
  t51 := Tryd.underlying129
  a51 := Tryd.isAgg129
  z51 := Tryd.sizeOf129
  v51 := Tryd.zeroValue129
  t53 := Tryd.underlying108
  a53 := Tryd.isAgg108
  z53 := Tryd.sizeOf108
  v53 := Tryd.zeroValue108
  t171 := Tryd.underlying121
  a171 := Tryd.isAgg121
  z171 := Tryd.sizeOf121
  v171 := Tryd.zeroValue121
  t173 := Tryd.underlying124
  a173 := Tryd.isAgg124
  z173 := Tryd.sizeOf124
  v173 := Tryd.zeroValue124
  t212 := Tryd.underlying128
  a212 := Tryd.isAgg128
  z212 := Tryd.sizeOf128
  v212 := Tryd.zeroValue128
  t213 := Tryd.underlying130
  a213 := Tryd.isAgg130
  z213 := Tryd.sizeOf130
  t232 := Tryd.underlying134
  a232 := Tryd.isAgg134
  z232 := Tryd.sizeOf134
  v232 := Tryd.zeroValue134
  t233 := Tryd.underlying135
  a233 := Tryd.isAgg135
  z233 := Tryd.sizeOf135
  v233 := Tryd.zeroValue135
  g17 := by kernel_rfl
  g18 := by kernel_rfl
  g19 := by kernel_rfl }
open Go.RowKit Go.Sort Go.Lib in
/-- THE ROAD WITHOUT THE TABLE: 0 <= i < 100: two constants are read, nothing is laid: no premise on the world, and the world is as it was. (LAID: no walk: one application.) -/
theorem Tryd.internal_strconv_FormatInt_10_small (i : Nat) (hi : i < 100) (w : World) :
    Calls Tryd.prog 74 #[.int .i64 i, .int .i64 10] w fun e w' => e = .returned (.string ⟨(Lib.decDigits i).toArray⟩) ∧ w' = w := Any.internal_strconv_FormatInt_10_small Tryd.lays246 i hi w
def Tryd.laysM243_ren : Go.Shelf.Ren := ⟨fun | 243 => 73 | 246 => 74 | 283 => 75 | 284 => 76 | 285 => 77 | 286 => 78 | 129 => 80 | 317 => 79 | 318 => 81 | 319 => 82 | 320 => 83 | 337 => 84 | 338 => 85 | n => n, fun | 3 => 3 | 9 => 9 | 2 => 2 | 4 => 4 | 171 => 121 | 0 => 0 | 53 => 108 | 37 => 41 | 5 => 5 | 173 => 124 | 212 => 128 | 51 => 129 | 20 => 20 | 213 => 130 | 46 => 32 | 232 => 134 | 233 => 135 | n => n, fun | 17 => 4 | 18 => 5 | 19 => 6 | n => n⟩
theorem Tryd.laysM243 : Go.Proofs.LaysM.n243 Tryd.prog Tryd.laysM243_ren := {
  mixed := by kernel_rfl
  f129 := Tryd.func80.trans (congrArg some (by kernel_rfl))
  f243 := Tryd.func73.trans (congrArg some (by kernel_rfl))
  f246 := Tryd.func74.trans (congrArg some (by kernel_rfl))
  f283 := Tryd.func75.trans (congrArg some (by kernel_rfl))
  f284 := Tryd.func76.trans (congrArg some (by kernel_rfl))
  f285 := Tryd.func77.trans (congrArg some (by kernel_rfl))
  f286 := Tryd.func78.trans (congrArg some (by kernel_rfl))
  f317 := Tryd.func79.trans (congrArg some (by kernel_rfl))
  f318 := Tryd.func81.trans (congrArg some (by kernel_rfl))
  f319 := Tryd.func82.trans (congrArg some (by kernel_rfl))
  f320 := Tryd.func83.trans (congrArg some (by kernel_rfl))
  f337 := Tryd.func84.trans (congrArg some (by kernel_rfl))
  f338 := Tryd.func85.trans (congrArg some (by kernel_rfl))
  t0 := Tryd.underlying0
  a0 := Tryd.isAgg0
  z0 := Tryd.sizeOf0
  v0 := Tryd.zeroValue0
  t2 := Tryd.underlying2
  a2 := Tryd.isAgg2
  z2 := Tryd.sizeOf2
  v2 := Tryd.zeroValue2
  t3 := Tryd.underlying3
  a3 := Tryd.isAgg3
  z3 := Tryd.sizeOf3
  v3 := Tryd.zeroValue3
  t4 := Tryd.underlying4
  a4 := Tryd.isAgg4
  z4 := Tryd.sizeOf4
  v4 := Tryd.zeroValue4
  t5 := Tryd.underlying5
  a5 := Tryd.isAgg5
  z5 := Tryd.sizeOf5
  v5 := Tryd.zeroValue5
  t9 := Tryd.underlying9
  a9 := Tryd.isAgg9
  z9 := Tryd.sizeOf9
  v9 := Tryd.zeroValue9
  t20 := Tryd.underlying20
  a20 := Tryd.isAgg20
  z20 := Tryd.sizeOf20
  v20 := Tryd.zeroValue20
  t37 := Tryd.underlying41
  a37 := Tryd.isAgg41
  z37 := Tryd.sizeOf41
  v37 := Tryd.zeroValue41
  t46 := Tryd.underlying32
  a46 := Tryd.isAgg32
  z46 := Tryd.sizeOf32
  v46 := Tryd.zeroValue32
  t51 := Tryd.underlying129
  a51 := Tryd.isAgg129
  z51 := Tryd.sizeOf129
  v51 := Tryd.zeroValue129
  t53 := Tryd.underlying108
  a53 := Tryd.isAgg108
  z53 := Tryd.sizeOf108
  v53 := Tryd.zeroValue108
  t171 := Tryd.underlying121
  a171 := Tryd.isAgg121
  z171 := Tryd.sizeOf121
  v171 := Tryd.zeroValue121
  t173 := Tryd.underlying124
  a173 := Tryd.isAgg124
  z173 := Tryd.sizeOf124
  v173 := Tryd.zeroValue124
  t212 := Tryd.underlying128
  a212 := Tryd.isAgg128
  z212 := Tryd.sizeOf128
  v212 := Tryd.zeroValue128
  t213 := Tryd.underlying130
  a213 := Tryd.isAgg130
  z213 := Tryd.sizeOf130
  t232 := Tryd.underlying134
  a232 := Tryd.isAgg134
  z232 := Tryd.sizeOf134
  v232 := Tryd.zeroValue134
  t233 := Tryd.underlying135
  a233 := Tryd.isAgg135
  z233 := Tryd.sizeOf135
  v233 := Tryd.zeroValue135
  g17 := by kernel_rfl
  g18 := by kernel_rfl
  g19 := by kernel_rfl
  i0 := by kernel_rfl
  i2 := by kernel_rfl
  i3 := by kernel_rfl
  i4 := by kernel_rfl
  i5 := by kernel_rfl
  i9 := by kernel_rfl
  i20 := by kernel_rfl
  i37 := by kernel_rfl
  i46 := by kernel_rfl
  i51 := by kernel_rfl
  i53 := by kernel_rfl
  i171 := by kernel_rfl
  i173 := by kernel_rfl
  i212 := by kernel_rfl
  i232 := by kernel_rfl
  i233 := by kernel_rfl
  m17 := by kernel_rfl
  m18 := by kernel_rfl
  m19 := by kernel_rfl }
open Go.RowKit Go.Sort Go.Lib in
/-- internal/strconv.Itoa: "Itoa is equivalent to FormatInt(int64(i), 10).": i's decimal numeral, for every int. (LAID: no walk: one application.) -/
theorem Tryd.internal_strconv_Itoa (n : Int) (h0 : -9223372036854775808 ≤ n) (h1 : n ≤ 9223372036854775807) (w : World) (htab : Lib.TabIs Tryd.prog w "internal/strconv.uint64pow10" .u64 Lib.pow10Tab) :
    Calls Tryd.prog 73 #[.int .i64 n] w fun e w' => e = .returned (.string ⟨(Lib.itoa n).toArray⟩) ∧ ∃ k os, w' = grow (w.drewN k) os := Any.internal_strconv_Itoa Tryd.laysM243 n h0 h1 w htab
def Tryd.lays243_ren : Go.Shelf.Ren := ⟨fun | 243 => 73 | 246 => 74 | 283 => 75 | 284 => 76 | 285 => 77 | 286 => 78 | 129 => 80 | 317 => 79 | 318 => 81 | 319 => 82 | 320 => 83 | 337 => 84 | 338 => 85 | n => n, fun | 3 => 3 | 9 => 9 | 2 => 2 | 4 => 4 | 171 => 121 | 0 => 0 | 53 => 108 | 37 => 41 | 5 => 5 | 173 => 124 | 212 => 128 | 51 => 129 | 20 => 20 | 213 => 130 | 46 => 32 | 232 => 134 | 233 => 135 | n => n, fun | 17 => 4 | 18 => 5 | 19 => 6 | n => n⟩
theorem Tryd.lays243 : Go.Proofs.Lays.n243 Tryd.prog Tryd.lays243_ren := {
  mixed := by kernel_rfl
  f129 := Tryd.func80.trans (congrArg some (by kernel_rfl))
  f243 := Tryd.func73.trans (congrArg some (by kernel_rfl))
  f246 := Tryd.func74.trans (congrArg some (by kernel_rfl))
  f283 := Tryd.func75.trans (congrArg some (by kernel_rfl))
  f284 := Tryd.func76.trans (congrArg some (by kernel_rfl))
  f285 := Tryd.func77.trans (congrArg some (by kernel_rfl))
  f286 := Tryd.func78.trans (congrArg some (by kernel_rfl))
  f317 := Tryd.func79.trans (congrArg some (by kernel_rfl))
  f318 := Tryd.func81.trans (congrArg some (by kernel_rfl))
  f319 := Tryd.func82.trans (congrArg some (by kernel_rfl))
  f320 := Tryd.func83.trans (congrArg some (by kernel_rfl))
  f337 := Tryd.func84.trans (congrArg some (by kernel_rfl))
  f338 := Tryd.func85.trans (congrArg some (by kernel_rfl))
  t0 := Tryd.underlying0
  a0 := Tryd.isAgg0
  z0 := Tryd.sizeOf0
  v0 := Tryd.zeroValue0
  t2 := Tryd.underlying2
  a2 := Tryd.isAgg2
  z2 := Tryd.sizeOf2
  v2 := Tryd.zeroValue2
  t3 := Tryd.underlying3
  a3 := Tryd.isAgg3
  z3 := Tryd.sizeOf3
  v3 := Tryd.zeroValue3
  t4 := Tryd.underlying4
  a4 := Tryd.isAgg4
  z4 := Tryd.sizeOf4
  v4 := Tryd.zeroValue4
  t5 := Tryd.underlying5
  a5 := Tryd.isAgg5
  z5 := Tryd.sizeOf5
  v5 := Tryd.zeroValue5
  t9 := Tryd.underlying9
  a9 := Tryd.isAgg9
  z9 := Tryd.sizeOf9
  v9 := Tryd.zeroValue9
  t20 := Tryd.underlying20
  a20 := Tryd.isAgg20
  z20 := Tryd.sizeOf20
  v20 := Tryd.zeroValue20
  t37 := Tryd.underlying41
  a37 := Tryd.isAgg41
  z37 := Tryd.sizeOf41
  v37 := Tryd.zeroValue41
  t46 := Tryd.underlying32
  a46 := Tryd.isAgg32
  z46 := Tryd.sizeOf32
  v46 := Tryd.zeroValue32
  t51 := Tryd.underlying129
  a51 := Tryd.isAgg129
  z51 := Tryd.sizeOf129
  v51 := Tryd.zeroValue129
  t53 := Tryd.underlying108
  a53 := Tryd.isAgg108
  z53 := Tryd.sizeOf108
  v53 := Tryd.zeroValue108
  t171 := Tryd.underlying121
  a171 := Tryd.isAgg121
  z171 := Tryd.sizeOf121
  v171 := Tryd.zeroValue121
  t173 := Tryd.underlying124
  a173 := Tryd.isAgg124
  z173 := Tryd.sizeOf124
  v173 := Tryd.zeroValue124
  t212 := Tryd.underlying128
  a212 := Tryd.isAgg128
  z212 := Tryd.sizeOf128
  v212 := Tryd.zeroValue128
  t213 := Tryd.underlying130
  a213 := Tryd.isAgg130
  z213 := Tryd.sizeOf130
  t232 := Tryd.underlying134
  a232 := Tryd.isAgg134
  z232 := Tryd.sizeOf134
  v232 := Tryd.zeroValue134
  t233 := Tryd.underlying135
  a233 := Tryd.isAgg135
  z233 := Tryd.sizeOf135
  v233 := Tryd.zeroValue135
  g17 := by kernel_rfl
  g18 := by kernel_rfl
  g19 := by kernel_rfl }
open Go.RowKit Go.Sort Go.Lib in
/-- THE ROAD WITHOUT THE TABLE: 0 <= i < 100. (LAID: no walk: one application.) -/
theorem Tryd.internal_strconv_Itoa_small (i : Nat) (hi : i < 100) (w : World) :
    Calls Tryd.prog 73 #[.int .i64 i] w fun e w' => e = .returned (.string ⟨(Lib.decDigits i).toArray⟩) ∧ w' = w := Any.internal_strconv_Itoa_small Tryd.lays243 i hi w
def Tryd.laysM171_ren : Go.Shelf.Ren := ⟨fun | 171 => 72 | 243 => 73 | 246 => 74 | 283 => 75 | 284 => 76 | 285 => 77 | 286 => 78 | 129 => 80 | 317 => 79 | 318 => 81 | 319 => 82 | 320 => 83 | 337 => 84 | 338 => 85 | n => n, fun | 3 => 3 | 9 => 9 | 2 => 2 | 4 => 4 | 171 => 121 | 0 => 0 | 53 => 108 | 37 => 41 | 5 => 5 | 173 => 124 | 212 => 128 | 51 => 129 | 20 => 20 | 213 => 130 | 46 => 32 | 232 => 134 | 233 => 135 | n => n, fun | 17 => 4 | 18 => 5 | 19 => 6 | n => n⟩
theorem Tryd.laysM171 : Go.Proofs.LaysM.n171 Tryd.prog Tryd.laysM171_ren := {
  mixed := by kernel_rfl
  f129 := Tryd.func80.trans (congrArg some (by kernel_rfl))
  f171 := Tryd.func72.trans (congrArg some (by kernel_rfl))
  f243 := Tryd.func73.trans (congrArg some (by kernel_rfl))
  f246 := Tryd.func74.trans (congrArg some (by kernel_rfl))
  f283 := Tryd.func75.trans (congrArg some (by kernel_rfl))
  f284 := Tryd.func76.trans (congrArg some (by kernel_rfl))
  f285 := Tryd.func77.trans (congrArg some (by kernel_rfl))
  f286 := Tryd.func78.trans (congrArg some (by kernel_rfl))
  f317 := Tryd.func79.trans (congrArg some (by kernel_rfl))
  f318 := Tryd.func81.trans (congrArg some (by kernel_rfl))
  f319 := Tryd.func82.trans (congrArg some (by kernel_rfl))
  f320 := Tryd.func83.trans (congrArg some (by kernel_rfl))
  f337 := Tryd.func84.trans (congrArg some (by kernel_rfl))
  f338 := Tryd.func85.trans (congrArg some (by kernel_rfl))
  t0 := Tryd.underlying0
  a0 := Tryd.isAgg0
  z0 := Tryd.sizeOf0
  v0 := Tryd.zeroValue0
  t2 := Tryd.underlying2
  a2 := Tryd.isAgg2
  z2 := Tryd.sizeOf2
  v2 := Tryd.zeroValue2
  t3 := Tryd.underlying3
  a3 := Tryd.isAgg3
  z3 := Tryd.sizeOf3
  v3 := Tryd.zeroValue3
  t4 := Tryd.underlying4
  a4 := Tryd.isAgg4
  z4 := Tryd.sizeOf4
  v4 := Tryd.zeroValue4
  t5 := Tryd.underlying5
  a5 := Tryd.isAgg5
  z5 := Tryd.sizeOf5
  v5 := Tryd.zeroValue5
  t9 := Tryd.underlying9
  a9 := Tryd.isAgg9
  z9 := Tryd.sizeOf9
  v9 := Tryd.zeroValue9
  t20 := Tryd.underlying20
  a20 := Tryd.isAgg20
  z20 := Tryd.sizeOf20
  v20 := Tryd.zeroValue20
  t37 := Tryd.underlying41
  a37 := Tryd.isAgg41
  z37 := Tryd.sizeOf41
  v37 := Tryd.zeroValue41
  t46 := Tryd.underlying32
  a46 := Tryd.isAgg32
  z46 := Tryd.sizeOf32
  v46 := Tryd.zeroValue32
  t51 := Tryd.underlying129
  a51 := Tryd.isAgg129
  z51 := Tryd.sizeOf129
  v51 := Tryd.zeroValue129
  t53 := Tryd.underlying108
  a53 := Tryd.isAgg108
  z53 := Tryd.sizeOf108
  v53 := Tryd.zeroValue108
  t171 := Tryd.underlying121
  a171 := Tryd.isAgg121
  z171 := Tryd.sizeOf121
  v171 := Tryd.zeroValue121
  t173 := Tryd.underlying124
  a173 := Tryd.isAgg124
  z173 := Tryd.sizeOf124
  v173 := Tryd.zeroValue124
  t212 := Tryd.underlying128
  a212 := Tryd.isAgg128
  z212 := Tryd.sizeOf128
  v212 := Tryd.zeroValue128
  t213 := Tryd.underlying130
  a213 := Tryd.isAgg130
  z213 := Tryd.sizeOf130
  t232 := Tryd.underlying134
  a232 := Tryd.isAgg134
  z232 := Tryd.sizeOf134
  v232 := Tryd.zeroValue134
  t233 := Tryd.underlying135
  a233 := Tryd.isAgg135
  z233 := Tryd.sizeOf135
  v233 := Tryd.zeroValue135
  g17 := by kernel_rfl
  g18 := by kernel_rfl
  g19 := by kernel_rfl
  i0 := by kernel_rfl
  i2 := by kernel_rfl
  i3 := by kernel_rfl
  i4 := by kernel_rfl
  i5 := by kernel_rfl
  i9 := by kernel_rfl
  i20 := by kernel_rfl
  i37 := by kernel_rfl
  i46 := by kernel_rfl
  i51 := by kernel_rfl
  i53 := by kernel_rfl
  i171 := by kernel_rfl
  i173 := by kernel_rfl
  i212 := by kernel_rfl
  i232 := by kernel_rfl
  i233 := by kernel_rfl
  m17 := by kernel_rfl
  m18 := by kernel_rfl
  m19 := by kernel_rfl }
open Go.RowKit Go.Sort Go.Lib in
/-- strconv.Itoa: "Itoa is equivalent to FormatInt(int64(i), 10).": i's DECIMAL NUMERAL ('Lib.itoa': a '-' where i is negative, then the digits), FOR EVERY int. The world behind the call: the world before it, new blocks behind the heap (the library's 'var a [24]byte'), draws. (LAID: no walk: one application.) -/
theorem Tryd.strconv_Itoa (n : Int) (h0 : -9223372036854775808 ≤ n) (h1 : n ≤ 9223372036854775807) (w : World) (htab : Lib.TabIs Tryd.prog w "internal/strconv.uint64pow10" .u64 Lib.pow10Tab) :
    Calls Tryd.prog 72 #[.int .i64 n] w fun e w' => e = .returned (.string ⟨(Lib.itoa n).toArray⟩) ∧ ∃ k os, w' = grow (w.drewN k) os := Any.strconv_Itoa Tryd.laysM171 n h0 h1 w htab
def Tryd.lays171_ren : Go.Shelf.Ren := ⟨fun | 171 => 72 | 243 => 73 | 246 => 74 | 283 => 75 | 284 => 76 | 285 => 77 | 286 => 78 | 129 => 80 | 317 => 79 | 318 => 81 | 319 => 82 | 320 => 83 | 337 => 84 | 338 => 85 | n => n, fun | 3 => 3 | 9 => 9 | 2 => 2 | 4 => 4 | 171 => 121 | 0 => 0 | 53 => 108 | 37 => 41 | 5 => 5 | 173 => 124 | 212 => 128 | 51 => 129 | 20 => 20 | 213 => 130 | 46 => 32 | 232 => 134 | 233 => 135 | n => n, fun | 17 => 4 | 18 => 5 | 19 => 6 | n => n⟩
theorem Tryd.lays171 : Go.Proofs.Lays.n171 Tryd.prog Tryd.lays171_ren := {
  mixed := by kernel_rfl
  f129 := Tryd.func80.trans (congrArg some (by kernel_rfl))
  f171 := Tryd.func72.trans (congrArg some (by kernel_rfl))
  f243 := Tryd.func73.trans (congrArg some (by kernel_rfl))
  f246 := Tryd.func74.trans (congrArg some (by kernel_rfl))
  f283 := Tryd.func75.trans (congrArg some (by kernel_rfl))
  f284 := Tryd.func76.trans (congrArg some (by kernel_rfl))
  f285 := Tryd.func77.trans (congrArg some (by kernel_rfl))
  f286 := Tryd.func78.trans (congrArg some (by kernel_rfl))
  f317 := Tryd.func79.trans (congrArg some (by kernel_rfl))
  f318 := Tryd.func81.trans (congrArg some (by kernel_rfl))
  f319 := Tryd.func82.trans (congrArg some (by kernel_rfl))
  f320 := Tryd.func83.trans (congrArg some (by kernel_rfl))
  f337 := Tryd.func84.trans (congrArg some (by kernel_rfl))
  f338 := Tryd.func85.trans (congrArg some (by kernel_rfl))
  t0 := Tryd.underlying0
  a0 := Tryd.isAgg0
  z0 := Tryd.sizeOf0
  v0 := Tryd.zeroValue0
  t2 := Tryd.underlying2
  a2 := Tryd.isAgg2
  z2 := Tryd.sizeOf2
  v2 := Tryd.zeroValue2
  t3 := Tryd.underlying3
  a3 := Tryd.isAgg3
  z3 := Tryd.sizeOf3
  v3 := Tryd.zeroValue3
  t4 := Tryd.underlying4
  a4 := Tryd.isAgg4
  z4 := Tryd.sizeOf4
  v4 := Tryd.zeroValue4
  t5 := Tryd.underlying5
  a5 := Tryd.isAgg5
  z5 := Tryd.sizeOf5
  v5 := Tryd.zeroValue5
  t9 := Tryd.underlying9
  a9 := Tryd.isAgg9
  z9 := Tryd.sizeOf9
  v9 := Tryd.zeroValue9
  t20 := Tryd.underlying20
  a20 := Tryd.isAgg20
  z20 := Tryd.sizeOf20
  v20 := Tryd.zeroValue20
  t37 := Tryd.underlying41
  a37 := Tryd.isAgg41
  z37 := Tryd.sizeOf41
  v37 := Tryd.zeroValue41
  t46 := Tryd.underlying32
  a46 := Tryd.isAgg32
  z46 := Tryd.sizeOf32
  v46 := Tryd.zeroValue32
  t51 := Tryd.underlying129
  a51 := Tryd.isAgg129
  z51 := Tryd.sizeOf129
  v51 := Tryd.zeroValue129
  t53 := Tryd.underlying108
  a53 := Tryd.isAgg108
  z53 := Tryd.sizeOf108
  v53 := Tryd.zeroValue108
  t171 := Tryd.underlying121
  a171 := Tryd.isAgg121
  z171 := Tryd.sizeOf121
  v171 := Tryd.zeroValue121
  t173 := Tryd.underlying124
  a173 := Tryd.isAgg124
  z173 := Tryd.sizeOf124
  v173 := Tryd.zeroValue124
  t212 := Tryd.underlying128
  a212 := Tryd.isAgg128
  z212 := Tryd.sizeOf128
  v212 := Tryd.zeroValue128
  t213 := Tryd.underlying130
  a213 := Tryd.isAgg130
  z213 := Tryd.sizeOf130
  t232 := Tryd.underlying134
  a232 := Tryd.isAgg134
  z232 := Tryd.sizeOf134
  v232 := Tryd.zeroValue134
  t233 := Tryd.underlying135
  a233 := Tryd.isAgg135
  z233 := Tryd.sizeOf135
  v233 := Tryd.zeroValue135
  g17 := by kernel_rfl
  g18 := by kernel_rfl
  g19 := by kernel_rfl }
open Go.RowKit Go.Sort Go.Lib in
/-- THE ROAD WITHOUT THE TABLE: 0 <= i < 100: NO PREMISE ON THE WORLD, AND THE WORLD IS AS IT WAS: a row that keeps its argument in that range need list no table ('laid = []'). (LAID: no walk: one application.) -/
theorem Tryd.strconv_Itoa_small (i : Nat) (hi : i < 100) (w : World) :
    Calls Tryd.prog 72 #[.int .i64 i] w fun e w' => e = .returned (.string ⟨(Lib.decDigits i).toArray⟩) ∧ w' = w := Any.strconv_Itoa_small Tryd.lays171 i hi w
def Tryd.lays247_ren : Go.Shelf.Ren := ⟨fun | 247 => 62 | 287 => 64 | 321 => 69 | 322 => 70 | n => n, fun | 9 => 9 | 3 => 3 | 2 => 2 | 75 => 38 | 4 => 4 | 167 => 107 | 5 => 5 | 53 => 108 | 175 => 109 | 46 => 32 | 37 => 41 | 0 => 0 | 21 => 21 | 80 => 97 | n => n, fun | n => n⟩
theorem Tryd.lays247 : Go.Proofs.Lays.n247 Tryd.prog Tryd.lays247_ren := {
  mixed := by kernel_rfl
  f247 := Tryd.func62.trans (congrArg some (by kernel_rfl))
  f287 := Tryd.func64.trans (congrArg some (by kernel_rfl))
  f321 := Tryd.func69.trans (congrArg some (by kernel_rfl))
  f322 := Tryd.func70.trans (congrArg some (by kernel_rfl))
  t0 := Tryd.underlying0
  a0 := Tryd.isAgg0
  z0 := Tryd.sizeOf0
  v0 := Tryd.zeroValue0
  t2 := Tryd.underlying2
  a2 := Tryd.isAgg2
  z2 := Tryd.sizeOf2
  v2 := Tryd.zeroValue2
  t3 := Tryd.underlying3
  a3 := Tryd.isAgg3
  z3 := Tryd.sizeOf3
  v3 := Tryd.zeroValue3
  t4 := Tryd.underlying4
  a4 := Tryd.isAgg4
  z4 := Tryd.sizeOf4
  v4 := Tryd.zeroValue4
  t5 := Tryd.underlying5
  a5 := Tryd.isAgg5
  z5 := Tryd.sizeOf5
  v5 := Tryd.zeroValue5
  t9 := Tryd.underlying9
  a9 := Tryd.isAgg9
  z9 := Tryd.sizeOf9
  v9 := Tryd.zeroValue9
  t21 := Tryd.underlying21
  a21 := Tryd.isAgg21
  z21 := Tryd.sizeOf21
  v21 := Tryd.zeroValue21
  t37 := Tryd.underlying41
  a37 := Tryd.isAgg41
  z37 := Tryd.sizeOf41
  v37 := Tryd.zeroValue41
  t46 := Tryd.underlying32
  a46 := Tryd.isAgg32
  z46 := Tryd.sizeOf32
  v46 := Tryd.zeroValue32
  t53 := Tryd.underlying108
  a53 := Tryd.isAgg108
  z53 := Tryd.sizeOf108
  v53 := Tryd.zeroValue108
  t75 := Tryd.underlying38
  a75 := Tryd.isAgg38
  z75 := Tryd.sizeOf38
  v75 := Tryd.zeroValue38
  t167 := Tryd.underlying107
  a167 := Tryd.isAgg107
  z167 := Tryd.sizeOf107
  v167 := Tryd.zeroValue107
  t175 := Tryd.underlying109
  a175 := Tryd.isAgg109
  z175 := Tryd.sizeOf109
  v175 := Tryd.zeroValue109 }
open Go.RowKit in
/-- internal/strconv.ParseInt at "": 'if s == "" { return 0, ErrSyntax }'. The world is as it was. (LAID: no walk: one application.) -/
theorem Tryd.internal_strconv_ParseInt_empty (base bits : Int) (w : World) :
    Calls Tryd.prog 62 #[.string ⟨#[]⟩, .int .i64 base, .int .i64 bits] w fun e w' => e = .returned (.tuple #[.int .i64 0, (.iface 107 (.int .i64 2))]) ∧ w' = w := Any.internal_strconv_ParseInt_empty Tryd.lays247 base bits w
def Tryd.laysM316_ren : Go.Shelf.Ren := ⟨fun | 316 => 71 | n => n, fun | 9 => 9 | 3 => 3 | 4 => 4 | 37 => 41 | 0 => 0 | 127 => 119 | 5 => 5 | n => n, fun | n => n⟩
theorem Tryd.laysM316 : Go.Proofs.LaysM.n316 Tryd.prog Tryd.laysM316_ren := {
  mixed := by kernel_rfl
  f316 := Tryd.func71.trans (congrArg some (by kernel_rfl))
  t0 := Tryd.underlying0
  a0 := Tryd.isAgg0
  z0 := Tryd.sizeOf0
  v0 := Tryd.zeroValue0
  t3 := Tryd.underlying3
  a3 := Tryd.isAgg3
  z3 := Tryd.sizeOf3
  v3 := Tryd.zeroValue3
  t4 := Tryd.underlying4
  a4 := Tryd.isAgg4
  z4 := Tryd.sizeOf4
  v4 := Tryd.zeroValue4
  t9 := Tryd.underlying9
  a9 := Tryd.isAgg9
  z9 := Tryd.sizeOf9
  v9 := Tryd.zeroValue9
  t37 := Tryd.underlying41
  a37 := Tryd.isAgg41
  z37 := Tryd.sizeOf41
  v37 := Tryd.zeroValue41
  t127 := Tryd.underlying119
  a127 := Tryd.isAgg119
  z127 := Tryd.sizeOf119
  v127 := Tryd.zeroValue119
  t5 := Tryd.underlying5
  a5 := Tryd.isAgg5
  z5 := Tryd.sizeOf5
  v5 := Tryd.zeroValue5
  i0 := by kernel_rfl
  i3 := by kernel_rfl
  i4 := by kernel_rfl
  i5 := by kernel_rfl
  i9 := by kernel_rfl
  i37 := by kernel_rfl
  i127 := by kernel_rfl }
open Go.RowKit in
/-- internal/stringslite.Clone (what strings.Clone calls): "Clone returns a fresh copy of s.": THE SAME BYTES. Of what was there nothing has turned (a new row is laid, and frozen, where s is not empty). (LAID: no walk: one application.) -/
theorem Tryd.stringslite_Clone (s : ByteArray) (w : World) (hlim : s.size ≤ 281474976710656) :
    Calls Tryd.prog 71 #[.string s] w fun e w' => e = .returned (.string s) ∧ Below w.heap.size w w' := Any.stringslite_Clone Tryd.laysM316 s w hlim
def Tryd.laysM279_ren : Go.Shelf.Ren := ⟨fun | 279 => 65 | 316 => 71 | n => n, fun | 9 => 9 | 168 => 111 | 75 => 38 | 210 => 117 | 3 => 3 | 4 => 4 | 37 => 41 | 0 => 0 | 127 => 119 | 80 => 97 | 5 => 5 | n => n, fun | 15 => 2 | n => n⟩
theorem Tryd.laysM279 : Go.Proofs.LaysM.n279 Tryd.prog Tryd.laysM279_ren := {
  mixed := by kernel_rfl
  f279 := Tryd.func65.trans (congrArg some (by kernel_rfl))
  f316 := Tryd.func71.trans (congrArg some (by kernel_rfl))
  t0 := Tryd.underlying0
  a0 := Tryd.isAgg0
  z0 := Tryd.sizeOf0
  v0 := Tryd.zeroValue0
  t3 := Tryd.underlying3
  a3 := Tryd.isAgg3
  z3 := Tryd.sizeOf3
  v3 := Tryd.zeroValue3
  t4 := Tryd.underlying4
  a4 := Tryd.isAgg4
  z4 := Tryd.sizeOf4
  v4 := Tryd.zeroValue4
  t9 := Tryd.underlying9
  a9 := Tryd.isAgg9
  z9 := Tryd.sizeOf9
  v9 := Tryd.zeroValue9
  t37 := Tryd.underlying41
  a37 := Tryd.isAgg41
  z37 := Tryd.sizeOf41
  v37 := Tryd.zeroValue41
  t75 := Tryd.underlying38
  a75 := Tryd.isAgg38
  z75 := Tryd.sizeOf38
  v75 := Tryd.zeroValue38
  t127 := Tryd.underlying119
  a127 := Tryd.isAgg119
  z127 := Tryd.sizeOf119
  v127 := Tryd.zeroValue119
  t168 := Tryd.underlying111
  a168 := Tryd.isAgg111
  z168 := Tryd.sizeOf111
  v168 := Tryd.zeroValue111
  t210 := Tryd.underlying117
  a210 := Tryd.isAgg117
  z210 := Tryd.sizeOf117
  v210 := Tryd.zeroValue117
  g15 := by kernel_rfl
  t5 := Tryd.underlying5
  a5 := Tryd.isAgg5
  z5 := Tryd.sizeOf5
  v5 := Tryd.zeroValue5
  t80 := Tryd.underlying97
  a80 := Tryd.isAgg97
  z80 := Tryd.sizeOf97
  v80 := Tryd.zeroValue97
  i0 := by kernel_rfl
  i3 := by kernel_rfl
  i4 := by kernel_rfl
  i5 := by kernel_rfl
  i9 := by kernel_rfl
  i37 := by kernel_rfl
  i75 := by kernel_rfl
  i80 := by kernel_rfl
  i127 := by kernel_rfl
  i168 := by kernel_rfl
  i210 := by kernel_rfl
  m15 := by kernel_rfl }
open Go.RowKit in
/-- strconv.syntaxError: '&NumError{fn, stringslite.Clone(str), ErrSyntax}': A POINTER TO A NEW BLOCK that holds fn, str's bytes, and what the variable ErrSyntax holds. Of what was there nothing has turned. (LAID: no walk: one application.) -/
theorem Tryd.strconv_syntaxError (fn s : ByteArray) (ev : Value) (w : World) (hlim : s.size ≤ 281474976710656) (hv : w.cell? ⟨2, 0, none⟩ = some ev) (hev : ev = .nilIface ∨ ∃ te pe, ev = .iface te pe) :
    Calls Tryd.prog 65 #[.string fn, .string s] w fun e w' => ∃ N, e = .returned (.pointer (some ⟨N, 0, none⟩)) ∧ w.heap.size ≤ N ∧ w'.heap[N]? = some (.cells #[.string fn, .string s, ev] 117 (0, 0)) ∧ Below w.heap.size w w' := Any.strconv_syntaxError Tryd.laysM279 fn s ev w hlim hv hev
def Tryd.laysC245_ren : Go.Shelf.Ren := ⟨fun | 245 => 63 | 279 => 65 | 280 => 66 | 281 => 67 | 282 => 68 | 316 => 71 | 171 => 72 | 205 => 30 | 243 => 73 | 246 => 74 | 283 => 75 | 284 => 76 | 285 => 77 | 286 => 78 | 129 => 80 | 317 => 79 | 318 => 81 | 319 => 82 | 320 => 83 | 337 => 84 | 338 => 85 | n => n, fun | 9 => 9 | 3 => 3 | 75 => 38 | 167 => 107 | 4 => 4 | 168 => 111 | 210 => 117 | 37 => 41 | 0 => 0 | 127 => 119 | 145 => 87 | 143 => 85 | 2 => 2 | 171 => 121 | 53 => 108 | 5 => 5 | 173 => 124 | 212 => 128 | 51 => 129 | 20 => 20 | 213 => 130 | 46 => 32 | 232 => 134 | 233 => 135 | 80 => 97 | n => n, fun | 15 => 2 | 16 => 3 | 17 => 4 | 18 => 5 | 19 => 6 | n => n⟩
theorem Tryd.laysC245 : Go.Proofs.LaysC.n245 Tryd.prog Tryd.laysC245_ren := {
  mixed := by kernel_rfl
  f129 := Tryd.func80.trans (congrArg some (by kernel_rfl))
  f171 := Tryd.func72.trans (congrArg some (by kernel_rfl))
  f205 := Tryd.func30.trans (congrArg some (by kernel_rfl))
  f243 := Tryd.func73.trans (congrArg some (by kernel_rfl))
  f245 := Tryd.func63.trans (congrArg some (by kernel_rfl))
  f246 := Tryd.func74.trans (congrArg some (by kernel_rfl))
  f279 := Tryd.func65.trans (congrArg some (by kernel_rfl))
  f280 := Tryd.func66.trans (congrArg some (by kernel_rfl))
  f281 := Tryd.func67.trans (congrArg some (by kernel_rfl))
  f282 := Tryd.func68.trans (congrArg some (by kernel_rfl))
  f283 := Tryd.func75.trans (congrArg some (by kernel_rfl))
  f284 := Tryd.func76.trans (congrArg some (by kernel_rfl))
  f285 := Tryd.func77.trans (congrArg some (by kernel_rfl))
  f286 := Tryd.func78.trans (congrArg some (by kernel_rfl))
  f316 := Tryd.func71.trans (congrArg some (by kernel_rfl))
  f317 := Tryd.func79.trans (congrArg some (by kernel_rfl))
  f318 := Tryd.func81.trans (congrArg some (by kernel_rfl))
  f319 := Tryd.func82.trans (congrArg some (by kernel_rfl))
  f320 := Tryd.func83.trans (congrArg some (by kernel_rfl))
  f337 := Tryd.func84.trans (congrArg some (by kernel_rfl))
  f338 := Tryd.func85.trans (congrArg some (by kernel_rfl))
  t0 := Tryd.underlying0
  a0 := Tryd.isAgg0
  z0 := Tryd.sizeOf0
  v0 := Tryd.zeroValue0
  t2 := Tryd.underlying2
  a2 := Tryd.isAgg2
  z2 := Tryd.sizeOf2
  v2 := Tryd.zeroValue2
  t3 := Tryd.underlying3
  a3 := Tryd.isAgg3
  z3 := Tryd.sizeOf3
  v3 := Tryd.zeroValue3
  t4 := Tryd.underlying4
  a4 := Tryd.isAgg4
  z4 := Tryd.sizeOf4
  v4 := Tryd.zeroValue4
  t5 := Tryd.underlying5
  a5 := Tryd.isAgg5
  z5 := Tryd.sizeOf5
  v5 := Tryd.zeroValue5
  t9 := Tryd.underlying9
  a9 := Tryd.isAgg9
  z9 := Tryd.sizeOf9
  v9 := Tryd.zeroValue9
  t20 := Tryd.underlying20
  a20 := Tryd.isAgg20
  z20 := Tryd.sizeOf20
  v20 := Tryd.zeroValue20
  t37 := Tryd.underlying41
  a37 := Tryd.isAgg41
  z37 := Tryd.sizeOf41
  v37 := Tryd.zeroValue41
  t46 := Tryd.underlying32
  a46 := Tryd.isAgg32
  z46 := Tryd.sizeOf32
  v46 := Tryd.zeroValue32
  t51 := Tryd.underlying129
  a51 := Tryd.isAgg129
  z51 := Tryd.sizeOf129
  v51 := Tryd.zeroValue129
  t53 := Tryd.underlying108
  a53 := Tryd.isAgg108
  z53 := Tryd.sizeOf108
  v53 := Tryd.zeroValue108
  t75 := Tryd.underlying38
  a75 := Tryd.isAgg38
  z75 := Tryd.sizeOf38
  v75 := Tryd.zeroValue38
  t127 := Tryd.underlying119
  a127 := Tryd.isAgg119
  z127 := Tryd.sizeOf119
  v127 := Tryd.zeroValue119
  t143 := Tryd.underlying85
  a143 := Tryd.isAgg85
  z143 := Tryd.sizeOf85
  v143 := Tryd.zeroValue85
  t145 := Tryd.underlying87
  a145 := Tryd.isAgg87
  z145 := Tryd.sizeOf87
  v145 := Tryd.zeroValue87
  t167 := Tryd.underlying107
  a167 := Tryd.isAgg107
  z167 := Tryd.sizeOf107
  v167 := Tryd.zeroValue107
  t168 := Tryd.underlying111
  a168 := Tryd.isAgg111
  z168 := Tryd.sizeOf111
  v168 := Tryd.zeroValue111
  t171 := Tryd.underlying121
  a171 := Tryd.isAgg121
  z171 := Tryd.sizeOf121
  v171 := Tryd.zeroValue121
  t173 := Tryd.underlying124
  a173 := Tryd.isAgg124
  z173 := Tryd.sizeOf124
  v173 := Tryd.zeroValue124
  t210 := Tryd.underlying117
  a210 := Tryd.isAgg117
  z210 := Tryd.sizeOf117
  v210 := Tryd.zeroValue117
  t212 := Tryd.underlying128
  a212 := Tryd.isAgg128
  z212 := Tryd.sizeOf128
  v212 := Tryd.zeroValue128
  t213 := Tryd.underlying130
  a213 := Tryd.isAgg130
  z213 := Tryd.sizeOf130
  t232 := Tryd.underlying134
  a232 := Tryd.isAgg134
  z232 := Tryd.sizeOf134
  v232 := Tryd.zeroValue134
  t233 := Tryd.underlying135
  a233 := Tryd.isAgg135
  z233 := Tryd.sizeOf135
  v233 := Tryd.zeroValue135
  g15 := by kernel_rfl
  g16 := by kernel_rfl
  g17 := by kernel_rfl
  g18 := by kernel_rfl
  g19 := by kernel_rfl
  t80 := Tryd.underlying97
  a80 := Tryd.isAgg97
  z80 := Tryd.sizeOf97
  v80 := Tryd.zeroValue97
  i0 := by kernel_rfl
  i2 := by kernel_rfl
  i3 := by kernel_rfl
  i4 := by kernel_rfl
  i5 := by kernel_rfl
  i9 := by kernel_rfl
  i20 := by kernel_rfl
  i37 := by kernel_rfl
  i46 := by kernel_rfl
  i51 := by kernel_rfl
  i53 := by kernel_rfl
  i75 := by kernel_rfl
  i80 := by kernel_rfl
  i127 := by kernel_rfl
  i143 := by kernel_rfl
  i145 := by kernel_rfl
  i167 := by kernel_rfl
  i168 := by kernel_rfl
  i171 := by kernel_rfl
  i173 := by kernel_rfl
  i210 := by kernel_rfl
  i212 := by kernel_rfl
  i232 := by kernel_rfl
  i233 := by kernel_rfl
  m15 := by kernel_rfl
  m16 := by kernel_rfl
  m17 := by kernel_rfl
  m18 := by kernel_rfl
  m19 := by kernel_rfl
  c0 := by kernel_rfl
  c2 := by kernel_rfl
  c3 := by kernel_rfl
  c4 := by kernel_rfl
  c5 := by kernel_rfl
  c9 := by kernel_rfl
  c20 := by kernel_rfl
  c37 := by kernel_rfl
  c46 := by kernel_rfl
  c51 := by kernel_rfl
  c53 := by kernel_rfl
  c75 := by kernel_rfl
  c80 := by kernel_rfl
  c127 := by kernel_rfl
  c143 := by kernel_rfl
  c145 := by kernel_rfl
  c167 := by kernel_rfl
  c168 := by kernel_rfl
  c171 := by kernel_rfl
  c173 := by kernel_rfl
  c210 := by kernel_rfl
  c212 := by kernel_rfl
  c213 := by kernel_rfl
  c232 := by kernel_rfl
  c233 := by kernel_rfl }
open Go.RowKit in
/-- strconv.toError, at the inner package's ErrSyntax: 'syntaxError(fn, s)' as an error: A *NumError IN A NEW BLOCK. (LAID: no walk: one application.) -/
theorem Tryd.strconv_toError_syntax (fn s : ByteArray) (base bits : Int) (ev : Value) (w : World) (hlim : s.size ≤ 281474976710656) (hv : w.cell? ⟨2, 0, none⟩ = some ev) (hev : ev = .nilIface ∨ ∃ te pe, ev = .iface te pe) :
    Calls Tryd.prog 63 #[.string fn, .string s, .int .i64 base, .int .i64 bits, .iface 107 (.int .i64 2)] w fun e w' => ∃ N, e = .returned (.iface 111 (.pointer (some ⟨N, 0, none⟩))) ∧ w.heap.size ≤ N ∧ w'.heap[N]? = some (.cells #[.string fn, .string s, ev] 117 (0, 0)) ∧ Below w.heap.size w w' := Any.strconv_toError_syntax Tryd.laysC245 fn s base bits ev w hlim hv hev
def Tryd.lays321_ren : Go.Shelf.Ren := ⟨fun | 321 => 69 | n => n, fun | 5 => 5 | n => n, fun | n => n⟩
theorem Tryd.lays321 : Go.Proofs.Lays.n321 Tryd.prog Tryd.lays321_ren := {
  mixed := by kernel_rfl
  f321 := Tryd.func69.trans (congrArg some (by kernel_rfl))
  t5 := Tryd.underlying5
  a5 := Tryd.isAgg5
  z5 := Tryd.sizeOf5
  v5 := Tryd.zeroValue5 }
open Go.RowKit in
/-- internal/strconv.lower: 'c | ('x' - 'X')': the bit 32 set. The world is as it was. (LAID: no walk: one application.) -/
theorem Tryd.internal_strconv_lower (c : Int) (w : World) :
    Calls Tryd.prog 69 #[.int .u8 c] w fun e w' => e = .returned (.int .u8 (bits .or .u8 c 32)) ∧ w' = w := Any.internal_strconv_lower Tryd.lays321 c w
def Tryd.lays287_ren : Go.Shelf.Ren := ⟨fun | 287 => 64 | 321 => 69 | 322 => 70 | n => n, fun | 9 => 9 | 3 => 3 | 53 => 108 | 75 => 38 | 4 => 4 | 167 => 107 | 5 => 5 | 46 => 32 | 37 => 41 | 0 => 0 | 21 => 21 | 80 => 97 | n => n, fun | n => n⟩
theorem Tryd.lays287 : Go.Proofs.Lays.n287 Tryd.prog Tryd.lays287_ren := {
  mixed := by kernel_rfl
  f287 := Tryd.func64.trans (congrArg some (by kernel_rfl))
  f321 := Tryd.func69.trans (congrArg some (by kernel_rfl))
  f322 := Tryd.func70.trans (congrArg some (by kernel_rfl))
  t0 := Tryd.underlying0
  a0 := Tryd.isAgg0
  z0 := Tryd.sizeOf0
  v0 := Tryd.zeroValue0
  t3 := Tryd.underlying3
  a3 := Tryd.isAgg3
  z3 := Tryd.sizeOf3
  v3 := Tryd.zeroValue3
  t4 := Tryd.underlying4
  a4 := Tryd.isAgg4
  z4 := Tryd.sizeOf4
  v4 := Tryd.zeroValue4
  t5 := Tryd.underlying5
  a5 := Tryd.isAgg5
  z5 := Tryd.sizeOf5
  v5 := Tryd.zeroValue5
  t9 := Tryd.underlying9
  a9 := Tryd.isAgg9
  z9 := Tryd.sizeOf9
  v9 := Tryd.zeroValue9
  t21 := Tryd.underlying21
  a21 := Tryd.isAgg21
  z21 := Tryd.sizeOf21
  v21 := Tryd.zeroValue21
  t37 := Tryd.underlying41
  a37 := Tryd.isAgg41
  z37 := Tryd.sizeOf41
  v37 := Tryd.zeroValue41
  t46 := Tryd.underlying32
  a46 := Tryd.isAgg32
  z46 := Tryd.sizeOf32
  v46 := Tryd.zeroValue32
  t53 := Tryd.underlying108
  a53 := Tryd.isAgg108
  z53 := Tryd.sizeOf108
  v53 := Tryd.zeroValue108
  t75 := Tryd.underlying38
  a75 := Tryd.isAgg38
  z75 := Tryd.sizeOf38
  v75 := Tryd.zeroValue38
  t167 := Tryd.underlying107
  a167 := Tryd.isAgg107
  z167 := Tryd.sizeOf107
  v167 := Tryd.zeroValue107 }
open Go.RowKit in
/-- internal/strconv.ParseUint(s, 10, 0), s NOT EMPTY: 'Lib.parseUint10 0' OF ITS BYTES: the number; or (0, ErrSyntax); or (the greatest uint64, ErrRange). The world behind the call: the one new row that '[]byte(s)' lays. (LAID: no walk: one application.) -/
theorem Tryd.internal_strconv_ParseUint_10 (t : ByteArray) (hne : t.size ≠ 0) (hmax : t.size ≤ 9223372036854775806) (w : World) :
    Calls Tryd.prog 64 #[.string t, .int .i64 10, .int .i64 0] w fun e w' => e = .returned (Lib.uintTuple 107 (Lib.parseUint10 0 t.data.toList)) ∧ w' = Lib.bytesWorld w 5 t := Any.internal_strconv_ParseUint_10 Tryd.lays287 t hne hmax w
open Go.RowKit in
/-- internal/strconv.ParseUint("", 10, 0): (0, ErrSyntax). The world is as it was. (LAID: no walk: one application.) -/
theorem Tryd.internal_strconv_ParseUint_10_empty (w : World) :
    Calls Tryd.prog 64 #[.string ⟨#[]⟩, .int .i64 10, .int .i64 0] w fun e w' => e = .returned (Lib.uintTuple 107 .syntax) ∧ w' = w := Any.internal_strconv_ParseUint_10_empty Tryd.lays287 w
open Go.RowKit in
/-- internal/strconv.ParseUint(s, 10, 0): 'Lib.parseMag' OF ITS BYTES. The world: as it was (the empty string), or with the one new row that '[]byte(s)' lays. (LAID: no walk: one application.) -/
theorem Tryd.internal_strconv_ParseUint_10_any (t : ByteArray) (hmax : t.size ≤ 9223372036854775806) (w : World) :
    Calls Tryd.prog 64 #[.string t, .int .i64 10, .int .i64 0] w fun e w' => e = .returned (Lib.uintTuple 107 (Lib.parseMag t.data.toList)) ∧ (w' = w ∨ w' = Lib.bytesWorld w 5 t) := Any.internal_strconv_ParseUint_10_any Tryd.lays287 t hmax w
def Tryd.laysC247_ren : Go.Shelf.Ren := ⟨fun | 247 => 62 | 287 => 64 | 321 => 69 | 322 => 70 | n => n, fun | 9 => 9 | 3 => 3 | 2 => 2 | 75 => 38 | 4 => 4 | 167 => 107 | 5 => 5 | 53 => 108 | 175 => 109 | 46 => 32 | 37 => 41 | 0 => 0 | 21 => 21 | 80 => 97 | n => n, fun | n => n⟩
theorem Tryd.laysC247 : Go.Proofs.LaysC.n247 Tryd.prog Tryd.laysC247_ren := {
  mixed := by kernel_rfl
  f247 := Tryd.func62.trans (congrArg some (by kernel_rfl))
  f287 := Tryd.func64.trans (congrArg some (by kernel_rfl))
  f321 := Tryd.func69.trans (congrArg some (by kernel_rfl))
  f322 := Tryd.func70.trans (congrArg some (by kernel_rfl))
  t0 := Tryd.underlying0
  a0 := Tryd.isAgg0
  z0 := Tryd.sizeOf0
  v0 := Tryd.zeroValue0
  t2 := Tryd.underlying2
  a2 := Tryd.isAgg2
  z2 := Tryd.sizeOf2
  v2 := Tryd.zeroValue2
  t3 := Tryd.underlying3
  a3 := Tryd.isAgg3
  z3 := Tryd.sizeOf3
  v3 := Tryd.zeroValue3
  t4 := Tryd.underlying4
  a4 := Tryd.isAgg4
  z4 := Tryd.sizeOf4
  v4 := Tryd.zeroValue4
  t5 := Tryd.underlying5
  a5 := Tryd.isAgg5
  z5 := Tryd.sizeOf5
  v5 := Tryd.zeroValue5
  t9 := Tryd.underlying9
  a9 := Tryd.isAgg9
  z9 := Tryd.sizeOf9
  v9 := Tryd.zeroValue9
  t21 := Tryd.underlying21
  a21 := Tryd.isAgg21
  z21 := Tryd.sizeOf21
  v21 := Tryd.zeroValue21
  t37 := Tryd.underlying41
  a37 := Tryd.isAgg41
  z37 := Tryd.sizeOf41
  v37 := Tryd.zeroValue41
  t46 := Tryd.underlying32
  a46 := Tryd.isAgg32
  z46 := Tryd.sizeOf32
  v46 := Tryd.zeroValue32
  t53 := Tryd.underlying108
  a53 := Tryd.isAgg108
  z53 := Tryd.sizeOf108
  v53 := Tryd.zeroValue108
  t75 := Tryd.underlying38
  a75 := Tryd.isAgg38
  z75 := Tryd.sizeOf38
  v75 := Tryd.zeroValue38
  t167 := Tryd.underlying107
  a167 := Tryd.isAgg107
  z167 := Tryd.sizeOf107
  v167 := Tryd.zeroValue107
  t175 := Tryd.underlying109
  a175 := Tryd.isAgg109
  z175 := Tryd.sizeOf109
  v175 := Tryd.zeroValue109
  t80 := Tryd.underlying97
  a80 := Tryd.isAgg97
  z80 := Tryd.sizeOf97
  v80 := Tryd.zeroValue97
  i0 := by kernel_rfl
  i2 := by kernel_rfl
  i3 := by kernel_rfl
  i4 := by kernel_rfl
  i5 := by kernel_rfl
  i9 := by kernel_rfl
  i21 := by kernel_rfl
  i37 := by kernel_rfl
  i46 := by kernel_rfl
  i53 := by kernel_rfl
  i75 := by kernel_rfl
  i80 := by kernel_rfl
  i167 := by kernel_rfl
  i175 := by kernel_rfl
  c0 := by kernel_rfl
  c2 := by kernel_rfl
  c3 := by kernel_rfl
  c4 := by kernel_rfl
  c5 := by kernel_rfl
  c9 := by kernel_rfl
  c21 := by kernel_rfl
  c37 := by kernel_rfl
  c46 := by kernel_rfl
  c53 := by kernel_rfl
  c75 := by kernel_rfl
  c80 := by kernel_rfl
  c167 := by kernel_rfl
  c175 := by kernel_rfl }
open Go.RowKit in
/-- internal/strconv.ParseInt(s, 10, 0), s NOT EMPTY: 'Lib.atoiAll' OF ITS BYTES: (the number, nil); (0, ErrSyntax); (the greatest or the least int64 by the sign, ErrRange). The world: as it was, or with the one new row that '[]byte(..)' lays. (LAID: no walk: one application.) -/
theorem Tryd.internal_strconv_ParseInt_10 (s : ByteArray) (hne : s.size ≠ 0) (hmax : s.size ≤ 9223372036854775806) (w : World) :
    Calls Tryd.prog 62 #[.string s, .int .i64 10, .int .i64 0] w fun e w' => e = .returned (Lib.intTuple 107 (Lib.atoiSat s.data.toList) (Lib.atoiAll s.data.toList)) ∧ (w' = w ∨ ∃ t, w' = Lib.bytesWorld w 5 t) := Any.internal_strconv_ParseInt_10 Tryd.laysC247 s hne hmax w
def Tryd.laysM280_ren : Go.Shelf.Ren := ⟨fun | 280 => 66 | 316 => 71 | n => n, fun | 9 => 9 | 168 => 111 | 75 => 38 | 210 => 117 | 3 => 3 | 4 => 4 | 37 => 41 | 0 => 0 | 127 => 119 | 80 => 97 | 5 => 5 | n => n, fun | 16 => 3 | n => n⟩
theorem Tryd.laysM280 : Go.Proofs.LaysM.n280 Tryd.prog Tryd.laysM280_ren := {
  mixed := by kernel_rfl
  f280 := Tryd.func66.trans (congrArg some (by kernel_rfl))
  f316 := Tryd.func71.trans (congrArg some (by kernel_rfl))
  t0 := Tryd.underlying0
  a0 := Tryd.isAgg0
  z0 := Tryd.sizeOf0
  v0 := Tryd.zeroValue0
  t3 := Tryd.underlying3
  a3 := Tryd.isAgg3
  z3 := Tryd.sizeOf3
  v3 := Tryd.zeroValue3
  t4 := Tryd.underlying4
  a4 := Tryd.isAgg4
  z4 := Tryd.sizeOf4
  v4 := Tryd.zeroValue4
  t9 := Tryd.underlying9
  a9 := Tryd.isAgg9
  z9 := Tryd.sizeOf9
  v9 := Tryd.zeroValue9
  t37 := Tryd.underlying41
  a37 := Tryd.isAgg41
  z37 := Tryd.sizeOf41
  v37 := Tryd.zeroValue41
  t75 := Tryd.underlying38
  a75 := Tryd.isAgg38
  z75 := Tryd.sizeOf38
  v75 := Tryd.zeroValue38
  t127 := Tryd.underlying119
  a127 := Tryd.isAgg119
  z127 := Tryd.sizeOf119
  v127 := Tryd.zeroValue119
  t168 := Tryd.underlying111
  a168 := Tryd.isAgg111
  z168 := Tryd.sizeOf111
  v168 := Tryd.zeroValue111
  t210 := Tryd.underlying117
  a210 := Tryd.isAgg117
  z210 := Tryd.sizeOf117
  v210 := Tryd.zeroValue117
  g16 := by kernel_rfl
  t5 := Tryd.underlying5
  a5 := Tryd.isAgg5
  z5 := Tryd.sizeOf5
  v5 := Tryd.zeroValue5
  t80 := Tryd.underlying97
  a80 := Tryd.isAgg97
  z80 := Tryd.sizeOf97
  v80 := Tryd.zeroValue97
  i0 := by kernel_rfl
  i3 := by kernel_rfl
  i4 := by kernel_rfl
  i5 := by kernel_rfl
  i9 := by kernel_rfl
  i37 := by kernel_rfl
  i75 := by kernel_rfl
  i80 := by kernel_rfl
  i127 := by kernel_rfl
  i168 := by kernel_rfl
  i210 := by kernel_rfl
  m16 := by kernel_rfl }
open Go.RowKit in
/-- strconv.rangeError: '&NumError{fn, stringslite.Clone(str), ErrRange}': A POINTER TO A NEW BLOCK that holds fn, str's bytes, and what the variable ErrRange holds. Of what was there nothing has turned. (LAID: no walk: one application.) -/
theorem Tryd.strconv_rangeError (fn s : ByteArray) (ev : Value) (w : World) (hlim : s.size ≤ 281474976710656) (hv : w.cell? ⟨3, 0, none⟩ = some ev) (hev : ev = .nilIface ∨ ∃ te pe, ev = .iface te pe) :
    Calls Tryd.prog 66 #[.string fn, .string s] w fun e w' => ∃ N, e = .returned (.pointer (some ⟨N, 0, none⟩)) ∧ w.heap.size ≤ N ∧ w'.heap[N]? = some (.cells #[.string fn, .string s, ev] 117 (0, 0)) ∧ Below w.heap.size w w' := Any.strconv_rangeError Tryd.laysM280 fn s ev w hlim hv hev
open Go.RowKit in
/-- strconv.toError, at the inner package's ErrRange: 'rangeError(fn, s)' as an error: A *NumError IN A NEW BLOCK. (LAID: no walk: one application.) -/
theorem Tryd.strconv_toError_range (fn s : ByteArray) (base bits : Int) (ev : Value) (w : World) (hlim : s.size ≤ 281474976710656) (hv : w.cell? ⟨3, 0, none⟩ = some ev) (hev : ev = .nilIface ∨ ∃ te pe, ev = .iface te pe) :
    Calls Tryd.prog 63 #[.string fn, .string s, .int .i64 base, .int .i64 bits, .iface 107 (.int .i64 1)] w fun e w' => ∃ N, e = .returned (.iface 111 (.pointer (some ⟨N, 0, none⟩))) ∧ w.heap.size ≤ N ∧ w'.heap[N]? = some (.cells #[.string fn, .string s, ev] 117 (0, 0)) ∧ Below w.heap.size w w' := Any.strconv_toError_range Tryd.laysC245 fn s base bits ev w hlim hv hev
open Go.RowKit in
/-- internal/strconv.ParseUint("", base, bitSize): (0, ErrSyntax): the first test of the text. The world is as it was. (LAID: no walk: one application.) -/
theorem Tryd.internal_strconv_ParseUint_empty (base bits : Int) (w : World) :
    Calls Tryd.prog 64 #[.string ⟨#[]⟩, .int .i64 base, .int .i64 bits] w fun e w' => e = .returned (.tuple #[.int .u64 0, .iface 107 (.int .i64 2)]) ∧ w' = w := Any.internal_strconv_ParseUint_empty Tryd.lays287 base bits w
open Go.RowKit in
/-- internal/strconv.ParseUint(s, 10, 64), s NOT EMPTY: 'Lib.parseUint10 0' OF ITS BYTES: the number; or (0, ErrSyntax); or (the greatest uint64, ErrRange). The world behind the call: the one new row that '[]byte(s)' lays. (LAID: no walk: one application.) -/
theorem Tryd.internal_strconv_ParseUint_10_b64 (t : ByteArray) (hne : t.size ≠ 0) (hmax : t.size ≤ 9223372036854775806) (w : World) :
    Calls Tryd.prog 64 #[.string t, .int .i64 10, .int .i64 64] w fun e w' => e = .returned (Lib.uintTuple 107 (Lib.parseUint10 0 t.data.toList)) ∧ w' = Lib.bytesWorld w 5 t := Any.internal_strconv_ParseUint_10_b64 Tryd.lays287 t hne hmax w
open Go.RowKit in
/-- internal/strconv.ParseUint(s, 10, 32), s NOT EMPTY: 'Lib.parseUintM 4294967295 0' OF ITS BYTES: the number; or (0, ErrSyntax); or (the greatest uint32, ErrRange). The world behind the call: the one new row that '[]byte(s)' lays. (LAID: no walk: one application.) -/
theorem Tryd.internal_strconv_ParseUint_10_b32 (t : ByteArray) (hne : t.size ≠ 0) (hmax : t.size ≤ 9223372036854775806) (w : World) :
    Calls Tryd.prog 64 #[.string t, .int .i64 10, .int .i64 32] w fun e w' => e = .returned (Lib.uintTupleM 107 4294967295 (Lib.parseUintM 4294967295 0 t.data.toList)) ∧ w' = Lib.bytesWorld w 5 t := Any.internal_strconv_ParseUint_10_b32 Tryd.lays287 t hne hmax w
open Go.RowKit in
/-- internal/strconv.ParseUint(s, 10, 16), s NOT EMPTY: 'Lib.parseUintM 65535 0' OF ITS BYTES: the number; or (0, ErrSyntax); or (the greatest uint16, ErrRange). The world behind the call: the one new row that '[]byte(s)' lays. (LAID: no walk: one application.) -/
theorem Tryd.internal_strconv_ParseUint_10_b16 (t : ByteArray) (hne : t.size ≠ 0) (hmax : t.size ≤ 9223372036854775806) (w : World) :
    Calls Tryd.prog 64 #[.string t, .int .i64 10, .int .i64 16] w fun e w' => e = .returned (Lib.uintTupleM 107 65535 (Lib.parseUintM 65535 0 t.data.toList)) ∧ w' = Lib.bytesWorld w 5 t := Any.internal_strconv_ParseUint_10_b16 Tryd.lays287 t hne hmax w
open Go.RowKit in
/-- internal/strconv.ParseUint(s, 10, 8), s NOT EMPTY: 'Lib.parseUintM 255 0' OF ITS BYTES: the number; or (0, ErrSyntax); or (the greatest uint8, ErrRange). The world behind the call: the one new row that '[]byte(s)' lays. (LAID: no walk: one application.) -/
theorem Tryd.internal_strconv_ParseUint_10_b8 (t : ByteArray) (hne : t.size ≠ 0) (hmax : t.size ≤ 9223372036854775806) (w : World) :
    Calls Tryd.prog 64 #[.string t, .int .i64 10, .int .i64 8] w fun e w' => e = .returned (Lib.uintTupleM 107 255 (Lib.parseUintM 255 0 t.data.toList)) ∧ w' = Lib.bytesWorld w 5 t := Any.internal_strconv_ParseUint_10_b8 Tryd.lays287 t hne hmax w
open Go.RowKit in
/-- internal/strconv.ParseUint(s, 10, 0): 'Lib.parseUintB 64' OF ITS BYTES. The world: as it was (the empty string), or with the one new row that '[]byte(s)' lays. (LAID: no walk: one application.) -/
theorem Tryd.internal_strconv_ParseUint_10_at0 (t : ByteArray) (hmax : t.size ≤ 9223372036854775806) (w : World) :
    Calls Tryd.prog 64 #[.string t, .int .i64 10, .int .i64 0] w fun e w' => e = .returned (Lib.uintTupleM 107 18446744073709551615 (Lib.parseUintB 64 t.data.toList)) ∧ (w' = w ∨ w' = Lib.bytesWorld w 5 t) := Any.internal_strconv_ParseUint_10_at0 Tryd.lays287 t hmax w
open Go.RowKit in
/-- internal/strconv.ParseUint(s, 10, 64): 'Lib.parseUintB 64' OF ITS BYTES. The world: as it was (the empty string), or with the one new row that '[]byte(s)' lays. (LAID: no walk: one application.) -/
theorem Tryd.internal_strconv_ParseUint_10_at64 (t : ByteArray) (hmax : t.size ≤ 9223372036854775806) (w : World) :
    Calls Tryd.prog 64 #[.string t, .int .i64 10, .int .i64 64] w fun e w' => e = .returned (Lib.uintTupleM 107 18446744073709551615 (Lib.parseUintB 64 t.data.toList)) ∧ (w' = w ∨ w' = Lib.bytesWorld w 5 t) := Any.internal_strconv_ParseUint_10_at64 Tryd.lays287 t hmax w
open Go.RowKit in
/-- internal/strconv.ParseUint(s, 10, 32): 'Lib.parseUintB 32' OF ITS BYTES. The world: as it was (the empty string), or with the one new row that '[]byte(s)' lays. (LAID: no walk: one application.) -/
theorem Tryd.internal_strconv_ParseUint_10_at32 (t : ByteArray) (hmax : t.size ≤ 9223372036854775806) (w : World) :
    Calls Tryd.prog 64 #[.string t, .int .i64 10, .int .i64 32] w fun e w' => e = .returned (Lib.uintTupleM 107 4294967295 (Lib.parseUintB 32 t.data.toList)) ∧ (w' = w ∨ w' = Lib.bytesWorld w 5 t) := Any.internal_strconv_ParseUint_10_at32 Tryd.lays287 t hmax w
open Go.RowKit in
/-- internal/strconv.ParseUint(s, 10, 16): 'Lib.parseUintB 16' OF ITS BYTES. The world: as it was (the empty string), or with the one new row that '[]byte(s)' lays. (LAID: no walk: one application.) -/
theorem Tryd.internal_strconv_ParseUint_10_at16 (t : ByteArray) (hmax : t.size ≤ 9223372036854775806) (w : World) :
    Calls Tryd.prog 64 #[.string t, .int .i64 10, .int .i64 16] w fun e w' => e = .returned (Lib.uintTupleM 107 65535 (Lib.parseUintB 16 t.data.toList)) ∧ (w' = w ∨ w' = Lib.bytesWorld w 5 t) := Any.internal_strconv_ParseUint_10_at16 Tryd.lays287 t hmax w
open Go.RowKit in
/-- internal/strconv.ParseUint(s, 10, 8): 'Lib.parseUintB 8' OF ITS BYTES. The world: as it was (the empty string), or with the one new row that '[]byte(s)' lays. (LAID: no walk: one application.) -/
theorem Tryd.internal_strconv_ParseUint_10_at8 (t : ByteArray) (hmax : t.size ≤ 9223372036854775806) (w : World) :
    Calls Tryd.prog 64 #[.string t, .int .i64 10, .int .i64 8] w fun e w' => e = .returned (Lib.uintTupleM 107 255 (Lib.parseUintB 8 t.data.toList)) ∧ (w' = w ∨ w' = Lib.bytesWorld w 5 t) := Any.internal_strconv_ParseUint_10_at8 Tryd.lays287 t hmax w
open Go.RowKit in
/-- internal/strconv.ParseInt(s, 10, 64), s NOT EMPTY: 'Lib.parseIntB 64' OF ITS BYTES: (the number, nil); (0, ErrSyntax); (the greatest or the least int64 by the sign, ErrRange). The world: as it was, or with the one new row that '[]byte(..)' lays. (LAID: no walk: one application.) -/
theorem Tryd.internal_strconv_ParseInt_10_at64 (s : ByteArray) (hne : s.size ≠ 0) (hmax : s.size ≤ 9223372036854775806) (w : World) :
    Calls Tryd.prog 62 #[.string s, .int .i64 10, .int .i64 64] w fun e w' => e = .returned (Lib.intTuple 107 (Lib.intSat 64 s.data.toList) (Lib.parseIntB 64 s.data.toList)) ∧ (w' = w ∨ ∃ t, w' = Lib.bytesWorld w 5 t) := Any.internal_strconv_ParseInt_10_at64 Tryd.laysC247 s hne hmax w
open Go.RowKit in
/-- internal/strconv.ParseInt(s, 10, 32), s NOT EMPTY: 'Lib.parseIntB 32' OF ITS BYTES: (the number, nil); (0, ErrSyntax); (the greatest or the least int32 by the sign, ErrRange). The world: as it was, or with the one new row that '[]byte(..)' lays. (LAID: no walk: one application.) -/
theorem Tryd.internal_strconv_ParseInt_10_at32 (s : ByteArray) (hne : s.size ≠ 0) (hmax : s.size ≤ 9223372036854775806) (w : World) :
    Calls Tryd.prog 62 #[.string s, .int .i64 10, .int .i64 32] w fun e w' => e = .returned (Lib.intTuple 107 (Lib.intSat 32 s.data.toList) (Lib.parseIntB 32 s.data.toList)) ∧ (w' = w ∨ ∃ t, w' = Lib.bytesWorld w 5 t) := Any.internal_strconv_ParseInt_10_at32 Tryd.laysC247 s hne hmax w
open Go.RowKit in
/-- internal/strconv.ParseInt(s, 10, 16), s NOT EMPTY: 'Lib.parseIntB 16' OF ITS BYTES: (the number, nil); (0, ErrSyntax); (the greatest or the least int16 by the sign, ErrRange). The world: as it was, or with the one new row that '[]byte(..)' lays. (LAID: no walk: one application.) -/
theorem Tryd.internal_strconv_ParseInt_10_at16 (s : ByteArray) (hne : s.size ≠ 0) (hmax : s.size ≤ 9223372036854775806) (w : World) :
    Calls Tryd.prog 62 #[.string s, .int .i64 10, .int .i64 16] w fun e w' => e = .returned (Lib.intTuple 107 (Lib.intSat 16 s.data.toList) (Lib.parseIntB 16 s.data.toList)) ∧ (w' = w ∨ ∃ t, w' = Lib.bytesWorld w 5 t) := Any.internal_strconv_ParseInt_10_at16 Tryd.laysC247 s hne hmax w
open Go.RowKit in
/-- internal/strconv.ParseInt(s, 10, 8), s NOT EMPTY: 'Lib.parseIntB 8' OF ITS BYTES: (the number, nil); (0, ErrSyntax); (the greatest or the least int8 by the sign, ErrRange). The world: as it was, or with the one new row that '[]byte(..)' lays. (LAID: no walk: one application.) -/
theorem Tryd.internal_strconv_ParseInt_10_at8 (s : ByteArray) (hne : s.size ≠ 0) (hmax : s.size ≤ 9223372036854775806) (w : World) :
    Calls Tryd.prog 62 #[.string s, .int .i64 10, .int .i64 8] w fun e w' => e = .returned (Lib.intTuple 107 (Lib.intSat 8 s.data.toList) (Lib.parseIntB 8 s.data.toList)) ∧ (w' = w ∨ ∃ t, w' = Lib.bytesWorld w 5 t) := Any.internal_strconv_ParseInt_10_at8 Tryd.laysC247 s hne hmax w
open Go.RowKit in
/-- internal/strconv.ParseInt(s, 10, 0), AT EVERY STRING: 'Lib.parseIntB 64' OF ITS BYTES. (LAID: no walk: one application.) -/
theorem Tryd.internal_strconv_ParseInt_10_all0 (s : ByteArray) (hmax : s.size ≤ 9223372036854775806) (w : World) :
    Calls Tryd.prog 62 #[.string s, .int .i64 10, .int .i64 0] w fun e w' => e = .returned (Lib.intTuple 107 (Lib.intSat 64 s.data.toList) (Lib.parseIntB 64 s.data.toList)) ∧ (w' = w ∨ ∃ t, w' = Lib.bytesWorld w 5 t) := Any.internal_strconv_ParseInt_10_all0 Tryd.laysC247 s hmax w
open Go.RowKit in
/-- internal/strconv.ParseInt(s, 10, 64), AT EVERY STRING: 'Lib.parseIntB 64' OF ITS BYTES. (LAID: no walk: one application.) -/
theorem Tryd.internal_strconv_ParseInt_10_all64 (s : ByteArray) (hmax : s.size ≤ 9223372036854775806) (w : World) :
    Calls Tryd.prog 62 #[.string s, .int .i64 10, .int .i64 64] w fun e w' => e = .returned (Lib.intTuple 107 (Lib.intSat 64 s.data.toList) (Lib.parseIntB 64 s.data.toList)) ∧ (w' = w ∨ ∃ t, w' = Lib.bytesWorld w 5 t) := Any.internal_strconv_ParseInt_10_all64 Tryd.laysC247 s hmax w
open Go.RowKit in
/-- internal/strconv.ParseInt(s, 10, 32), AT EVERY STRING: 'Lib.parseIntB 32' OF ITS BYTES. (LAID: no walk: one application.) -/
theorem Tryd.internal_strconv_ParseInt_10_all32 (s : ByteArray) (hmax : s.size ≤ 9223372036854775806) (w : World) :
    Calls Tryd.prog 62 #[.string s, .int .i64 10, .int .i64 32] w fun e w' => e = .returned (Lib.intTuple 107 (Lib.intSat 32 s.data.toList) (Lib.parseIntB 32 s.data.toList)) ∧ (w' = w ∨ ∃ t, w' = Lib.bytesWorld w 5 t) := Any.internal_strconv_ParseInt_10_all32 Tryd.laysC247 s hmax w
open Go.RowKit in
/-- internal/strconv.ParseInt(s, 10, 16), AT EVERY STRING: 'Lib.parseIntB 16' OF ITS BYTES. (LAID: no walk: one application.) -/
theorem Tryd.internal_strconv_ParseInt_10_all16 (s : ByteArray) (hmax : s.size ≤ 9223372036854775806) (w : World) :
    Calls Tryd.prog 62 #[.string s, .int .i64 10, .int .i64 16] w fun e w' => e = .returned (Lib.intTuple 107 (Lib.intSat 16 s.data.toList) (Lib.parseIntB 16 s.data.toList)) ∧ (w' = w ∨ ∃ t, w' = Lib.bytesWorld w 5 t) := Any.internal_strconv_ParseInt_10_all16 Tryd.laysC247 s hmax w
open Go.RowKit in
/-- internal/strconv.ParseInt(s, 10, 8), AT EVERY STRING: 'Lib.parseIntB 8' OF ITS BYTES. (LAID: no walk: one application.) -/
theorem Tryd.internal_strconv_ParseInt_10_all8 (s : ByteArray) (hmax : s.size ≤ 9223372036854775806) (w : World) :
    Calls Tryd.prog 62 #[.string s, .int .i64 10, .int .i64 8] w fun e w' => e = .returned (Lib.intTuple 107 (Lib.intSat 8 s.data.toList) (Lib.parseIntB 8 s.data.toList)) ∧ (w' = w ∨ ∃ t, w' = Lib.bytesWorld w 5 t) := Any.internal_strconv_ParseInt_10_all8 Tryd.laysC247 s hmax w
def Tryd.laysC174_ren : Go.Shelf.Ren := ⟨fun | 174 => 60 | 247 => 62 | 245 => 63 | 287 => 64 | 279 => 65 | 280 => 66 | 281 => 67 | 282 => 68 | 321 => 69 | 322 => 70 | 316 => 71 | 171 => 72 | 205 => 30 | 243 => 73 | 246 => 74 | 283 => 75 | 284 => 76 | 285 => 77 | 286 => 78 | 129 => 80 | 317 => 79 | 318 => 81 | 319 => 82 | 320 => 83 | 337 => 84 | 338 => 85 | n => n, fun | 9 => 9 | 3 => 3 | 2 => 2 | 75 => 38 | 85 => 104 | 4 => 4 | 167 => 107 | 5 => 5 | 53 => 108 | 175 => 109 | 46 => 32 | 168 => 111 | 37 => 41 | 0 => 0 | 210 => 117 | 21 => 21 | 127 => 119 | 145 => 87 | 143 => 85 | 171 => 121 | 173 => 124 | 212 => 128 | 51 => 129 | 20 => 20 | 213 => 130 | 232 => 134 | 233 => 135 | 80 => 97 | n => n, fun | 15 => 2 | 16 => 3 | 17 => 4 | 18 => 5 | 19 => 6 | n => n⟩
theorem Tryd.laysC174 : Go.Proofs.LaysC.n174 Tryd.prog Tryd.laysC174_ren := {
  mixed := by kernel_rfl
  f129 := Tryd.func80.trans (congrArg some (by kernel_rfl))
  f171 := Tryd.func72.trans (congrArg some (by kernel_rfl))
  f174 := Tryd.func60.trans (congrArg some (by kernel_rfl))
  f205 := Tryd.func30.trans (congrArg some (by kernel_rfl))
  f243 := Tryd.func73.trans (congrArg some (by kernel_rfl))
  f245 := Tryd.func63.trans (congrArg some (by kernel_rfl))
  f246 := Tryd.func74.trans (congrArg some (by kernel_rfl))
  f247 := Tryd.func62.trans (congrArg some (by kernel_rfl))
  f279 := Tryd.func65.trans (congrArg some (by kernel_rfl))
  f280 := Tryd.func66.trans (congrArg some (by kernel_rfl))
  f281 := Tryd.func67.trans (congrArg some (by kernel_rfl))
  f282 := Tryd.func68.trans (congrArg some (by kernel_rfl))
  f283 := Tryd.func75.trans (congrArg some (by kernel_rfl))
  f284 := Tryd.func76.trans (congrArg some (by kernel_rfl))
  f285 := Tryd.func77.trans (congrArg some (by kernel_rfl))
  f286 := Tryd.func78.trans (congrArg some (by kernel_rfl))
  f287 := Tryd.func64.trans (congrArg some (by kernel_rfl))
  f316 := Tryd.func71.trans (congrArg some (by kernel_rfl))
  f317 := Tryd.func79.trans (congrArg some (by kernel_rfl))
  f318 := Tryd.func81.trans (congrArg some (by kernel_rfl))
  f319 := Tryd.func82.trans (congrArg some (by kernel_rfl))
  f320 := Tryd.func83.trans (congrArg some (by kernel_rfl))
  f321 := Tryd.func69.trans (congrArg some (by kernel_rfl))
  f322 := Tryd.func70.trans (congrArg some (by kernel_rfl))
  f337 := Tryd.func84.trans (congrArg some (by kernel_rfl))
  f338 := Tryd.func85.trans (congrArg some (by kernel_rfl))
  t0 := Tryd.underlying0
  a0 := Tryd.isAgg0
  z0 := Tryd.sizeOf0
  v0 := Tryd.zeroValue0
  t2 := Tryd.underlying2
  a2 := Tryd.isAgg2
  z2 := Tryd.sizeOf2
  v2 := Tryd.zeroValue2
  t3 := Tryd.underlying3
  a3 := Tryd.isAgg3
  z3 := Tryd.sizeOf3
  v3 := Tryd.zeroValue3
  t4 := Tryd.underlying4
  a4 := Tryd.isAgg4
  z4 := Tryd.sizeOf4
  v4 := Tryd.zeroValue4
  t5 := Tryd.underlying5
  a5 := Tryd.isAgg5
  z5 := Tryd.sizeOf5
  v5 := Tryd.zeroValue5
  t9 := Tryd.underlying9
  a9 := Tryd.isAgg9
  z9 := Tryd.sizeOf9
  v9 := Tryd.zeroValue9
  t20 := Tryd.underlying20
  a20 := Tryd.isAgg20
  z20 := Tryd.sizeOf20
  v20 := Tryd.zeroValue20
  t21 := Tryd.underlying21
  a21 := Tryd.isAgg21
  z21 := Tryd.sizeOf21
  v21 := Tryd.zeroValue21
  t37 := Tryd.underlying41
  a37 := Tryd.isAgg41
  z37 := Tryd.sizeOf41
  v37 := Tryd.zeroValue41
  t46 := Tryd.underlying32
  a46 := Tryd.isAgg32
  z46 := Tryd.sizeOf32
  v46 := Tryd.zeroValue32
  t51 := Tryd.underlying129
  a51 := Tryd.isAgg129
  z51 := Tryd.sizeOf129
  v51 := Tryd.zeroValue129
  t53 := Tryd.underlying108
  a53 := Tryd.isAgg108
  z53 := Tryd.sizeOf108
  v53 := Tryd.zeroValue108
  t75 := Tryd.underlying38
  a75 := Tryd.isAgg38
  z75 := Tryd.sizeOf38
  v75 := Tryd.zeroValue38
  t85 := Tryd.underlying104
  a85 := Tryd.isAgg104
  z85 := Tryd.sizeOf104
  v85 := Tryd.zeroValue104
  t127 := Tryd.underlying119
  a127 := Tryd.isAgg119
  z127 := Tryd.sizeOf119
  v127 := Tryd.zeroValue119
  t143 := Tryd.underlying85
  a143 := Tryd.isAgg85
  z143 := Tryd.sizeOf85
  v143 := Tryd.zeroValue85
  t145 := Tryd.underlying87
  a145 := Tryd.isAgg87
  z145 := Tryd.sizeOf87
  v145 := Tryd.zeroValue87
  t167 := Tryd.underlying107
  a167 := Tryd.isAgg107
  z167 := Tryd.sizeOf107
  v167 := Tryd.zeroValue107
  t168 := Tryd.underlying111
  a168 := Tryd.isAgg111
  z168 := Tryd.sizeOf111
  v168 := Tryd.zeroValue111
  t171 := Tryd.underlying121
  a171 := Tryd.isAgg121
  z171 := Tryd.sizeOf121
  v171 := Tryd.zeroValue121
  t173 := Tryd.underlying124
  a173 := Tryd.isAgg124
  z173 := Tryd.sizeOf124
  v173 := Tryd.zeroValue124
  t175 := Tryd.underlying109
  a175 := Tryd.isAgg109
  z175 := Tryd.sizeOf109
  v175 := Tryd.zeroValue109
  t210 := Tryd.underlying117
  a210 := Tryd.isAgg117
  z210 := Tryd.sizeOf117
  v210 := Tryd.zeroValue117
  t212 := Tryd.underlying128
  a212 := Tryd.isAgg128
  z212 := Tryd.sizeOf128
  v212 := Tryd.zeroValue128
  t213 := Tryd.underlying130
  a213 := Tryd.isAgg130
  z213 := Tryd.sizeOf130
  t232 := Tryd.underlying134
  a232 := Tryd.isAgg134
  z232 := Tryd.sizeOf134
  v232 := Tryd.zeroValue134
  t233 := Tryd.underlying135
  a233 := Tryd.isAgg135
  z233 := Tryd.sizeOf135
  v233 := Tryd.zeroValue135
  g15 := by kernel_rfl
  g16 := by kernel_rfl
  g17 := by kernel_rfl
  g18 := by kernel_rfl
  g19 := by kernel_rfl
  t80 := Tryd.underlying97
  a80 := Tryd.isAgg97
  z80 := Tryd.sizeOf97
  v80 := Tryd.zeroValue97
  i0 := by kernel_rfl
  i2 := by kernel_rfl
  i3 := by kernel_rfl
  i4 := by kernel_rfl
  i5 := by kernel_rfl
  i9 := by kernel_rfl
  i20 := by kernel_rfl
  i21 := by kernel_rfl
  i37 := by kernel_rfl
  i46 := by kernel_rfl
  i51 := by kernel_rfl
  i53 := by kernel_rfl
  i75 := by kernel_rfl
  i80 := by kernel_rfl
  i85 := by kernel_rfl
  i127 := by kernel_rfl
  i143 := by kernel_rfl
  i145 := by kernel_rfl
  i167 := by kernel_rfl
  i168 := by kernel_rfl
  i171 := by kernel_rfl
  i173 := by kernel_rfl
  i175 := by kernel_rfl
  i210 := by kernel_rfl
  i212 := by kernel_rfl
  i232 := by kernel_rfl
  i233 := by kernel_rfl
  m15 := by kernel_rfl
  m16 := by kernel_rfl
  m17 := by kernel_rfl
  m18 := by kernel_rfl
  m19 := by kernel_rfl
  c0 := by kernel_rfl
  c2 := by kernel_rfl
  c3 := by kernel_rfl
  c4 := by kernel_rfl
  c5 := by kernel_rfl
  c9 := by kernel_rfl
  c20 := by kernel_rfl
  c21 := by kernel_rfl
  c37 := by kernel_rfl
  c46 := by kernel_rfl
  c51 := by kernel_rfl
  c53 := by kernel_rfl
  c75 := by kernel_rfl
  c80 := by kernel_rfl
  c85 := by kernel_rfl
  c127 := by kernel_rfl
  c143 := by kernel_rfl
  c145 := by kernel_rfl
  c167 := by kernel_rfl
  c168 := by kernel_rfl
  c171 := by kernel_rfl
  c173 := by kernel_rfl
  c175 := by kernel_rfl
  c210 := by kernel_rfl
  c212 := by kernel_rfl
  c213 := by kernel_rfl
  c232 := by kernel_rfl
  c233 := by kernel_rfl }
open Go.RowKit in
/-- strconv.ParseInt(s, 10, 0), AT EVERY STRING THAT SPELLS AN int64 ('Lib.parseIntB 64 s.data.toList = .ok v'): v, AND NO ERROR. (LAID: no walk: one application.) -/
theorem Tryd.strconv_ParseInt_10_at0_ok (s : ByteArray) (hmax : s.size ≤ 9223372036854775806) (v : Int) (h : Lib.parseIntB 64 s.data.toList = .ok v) (w : World) :
    Calls Tryd.prog 60 #[.string s, .int .i64 10, .int .i64 0] w fun e w' => e = .returned (.tuple #[.int .i64 v, .nilIface]) ∧ (w' = w ∨ ∃ t, w' = Lib.bytesWorld w 5 t) := Any.strconv_ParseInt_10_at0_ok Tryd.laysC174 s hmax v h w
open Go.RowKit in
/-- strconv.ParseInt(s, 10, 0), AT EVERY STRING THAT IS NO DECIMAL NUMERAL: 0, AND AN ERROR THAT IS NOT nil: a *NumError in a new block N: {Func: "ParseInt", Num: s's bytes, Err: what the variable ErrSyntax holds}. Of what was there nothing has turned. (LAID: no walk: one application.) -/
theorem Tryd.strconv_ParseInt_10_at0_syntax (s : ByteArray) (hlim : s.size ≤ 281474976710656) (h : Lib.parseIntB 64 s.data.toList = .«syntax») (ev : Value) (w : World) (hv : w.cell? ⟨2, 0, none⟩ = some ev) (hev : ev = .nilIface ∨ ∃ te pe, ev = .iface te pe) :
    Calls Tryd.prog 60 #[.string s, .int .i64 10, .int .i64 0] w fun e w' => ∃ N, e = .returned (.tuple #[.int .i64 (0), .iface 111 (.pointer (some ⟨N, 0, none⟩))]) ∧ w.heap.size ≤ N ∧ w'.heap[N]? = some (.cells #[.string ⟨#[80, 97, 114, 115, 101, 73, 110, 116]⟩, .string s, ev] 117 (0, 0)) ∧ Below w.heap.size w w' := Any.strconv_ParseInt_10_at0_syntax Tryd.laysC174 s hlim h ev w hv hev
open Go.RowKit in
/-- strconv.ParseInt(s, 10, 0), AT EVERY NUMERAL THAT NO int64 HOLDS: THE GREATEST OR THE LEAST int64, BY THE SIGN ('Lib.intSat 64'), AND AN ERROR THAT IS NOT nil: a *NumError in a new block N: {Func: "ParseInt", Num: s's bytes, Err: what the variable ErrRange holds}. Of what was there nothing has turned. (LAID: no walk: one application.) -/
theorem Tryd.strconv_ParseInt_10_at0_range (s : ByteArray) (hlim : s.size ≤ 281474976710656) (h : Lib.parseIntB 64 s.data.toList = .range) (ev : Value) (w : World) (hv : w.cell? ⟨3, 0, none⟩ = some ev) (hev : ev = .nilIface ∨ ∃ te pe, ev = .iface te pe) :
    Calls Tryd.prog 60 #[.string s, .int .i64 10, .int .i64 0] w fun e w' => ∃ N, e = .returned (.tuple #[.int .i64 (Lib.intSat 64 s.data.toList), .iface 111 (.pointer (some ⟨N, 0, none⟩))]) ∧ w.heap.size ≤ N ∧ w'.heap[N]? = some (.cells #[.string ⟨#[80, 97, 114, 115, 101, 73, 110, 116]⟩, .string s, ev] 117 (0, 0)) ∧ Below w.heap.size w w' := Any.strconv_ParseInt_10_at0_range Tryd.laysC174 s hlim h ev w hv hev
open Go.RowKit in
/-- strconv.ParseInt(s, 10, 64), AT EVERY STRING THAT SPELLS AN int64 ('Lib.parseIntB 64 s.data.toList = .ok v'): v, AND NO ERROR. (LAID: no walk: one application.) -/
theorem Tryd.strconv_ParseInt_10_at64_ok (s : ByteArray) (hmax : s.size ≤ 9223372036854775806) (v : Int) (h : Lib.parseIntB 64 s.data.toList = .ok v) (w : World) :
    Calls Tryd.prog 60 #[.string s, .int .i64 10, .int .i64 64] w fun e w' => e = .returned (.tuple #[.int .i64 v, .nilIface]) ∧ (w' = w ∨ ∃ t, w' = Lib.bytesWorld w 5 t) := Any.strconv_ParseInt_10_at64_ok Tryd.laysC174 s hmax v h w
open Go.RowKit in
/-- strconv.ParseInt(s, 10, 64), AT EVERY STRING THAT IS NO DECIMAL NUMERAL: 0, AND AN ERROR THAT IS NOT nil: a *NumError in a new block N: {Func: "ParseInt", Num: s's bytes, Err: what the variable ErrSyntax holds}. Of what was there nothing has turned. (LAID: no walk: one application.) -/
theorem Tryd.strconv_ParseInt_10_at64_syntax (s : ByteArray) (hlim : s.size ≤ 281474976710656) (h : Lib.parseIntB 64 s.data.toList = .«syntax») (ev : Value) (w : World) (hv : w.cell? ⟨2, 0, none⟩ = some ev) (hev : ev = .nilIface ∨ ∃ te pe, ev = .iface te pe) :
    Calls Tryd.prog 60 #[.string s, .int .i64 10, .int .i64 64] w fun e w' => ∃ N, e = .returned (.tuple #[.int .i64 (0), .iface 111 (.pointer (some ⟨N, 0, none⟩))]) ∧ w.heap.size ≤ N ∧ w'.heap[N]? = some (.cells #[.string ⟨#[80, 97, 114, 115, 101, 73, 110, 116]⟩, .string s, ev] 117 (0, 0)) ∧ Below w.heap.size w w' := Any.strconv_ParseInt_10_at64_syntax Tryd.laysC174 s hlim h ev w hv hev
open Go.RowKit in
/-- strconv.ParseInt(s, 10, 64), AT EVERY NUMERAL THAT NO int64 HOLDS: THE GREATEST OR THE LEAST int64, BY THE SIGN ('Lib.intSat 64'), AND AN ERROR THAT IS NOT nil: a *NumError in a new block N: {Func: "ParseInt", Num: s's bytes, Err: what the variable ErrRange holds}. Of what was there nothing has turned. (LAID: no walk: one application.) -/
theorem Tryd.strconv_ParseInt_10_at64_range (s : ByteArray) (hlim : s.size ≤ 281474976710656) (h : Lib.parseIntB 64 s.data.toList = .range) (ev : Value) (w : World) (hv : w.cell? ⟨3, 0, none⟩ = some ev) (hev : ev = .nilIface ∨ ∃ te pe, ev = .iface te pe) :
    Calls Tryd.prog 60 #[.string s, .int .i64 10, .int .i64 64] w fun e w' => ∃ N, e = .returned (.tuple #[.int .i64 (Lib.intSat 64 s.data.toList), .iface 111 (.pointer (some ⟨N, 0, none⟩))]) ∧ w.heap.size ≤ N ∧ w'.heap[N]? = some (.cells #[.string ⟨#[80, 97, 114, 115, 101, 73, 110, 116]⟩, .string s, ev] 117 (0, 0)) ∧ Below w.heap.size w w' := Any.strconv_ParseInt_10_at64_range Tryd.laysC174 s hlim h ev w hv hev
open Go.RowKit in
/-- strconv.ParseInt(s, 10, 32), AT EVERY STRING THAT SPELLS AN int32 ('Lib.parseIntB 32 s.data.toList = .ok v'): v, AND NO ERROR. (LAID: no walk: one application.) -/
theorem Tryd.strconv_ParseInt_10_at32_ok (s : ByteArray) (hmax : s.size ≤ 9223372036854775806) (v : Int) (h : Lib.parseIntB 32 s.data.toList = .ok v) (w : World) :
    Calls Tryd.prog 60 #[.string s, .int .i64 10, .int .i64 32] w fun e w' => e = .returned (.tuple #[.int .i64 v, .nilIface]) ∧ (w' = w ∨ ∃ t, w' = Lib.bytesWorld w 5 t) := Any.strconv_ParseInt_10_at32_ok Tryd.laysC174 s hmax v h w
open Go.RowKit in
/-- strconv.ParseInt(s, 10, 32), AT EVERY STRING THAT IS NO DECIMAL NUMERAL: 0, AND AN ERROR THAT IS NOT nil: a *NumError in a new block N: {Func: "ParseInt", Num: s's bytes, Err: what the variable ErrSyntax holds}. Of what was there nothing has turned. (LAID: no walk: one application.) -/
theorem Tryd.strconv_ParseInt_10_at32_syntax (s : ByteArray) (hlim : s.size ≤ 281474976710656) (h : Lib.parseIntB 32 s.data.toList = .«syntax») (ev : Value) (w : World) (hv : w.cell? ⟨2, 0, none⟩ = some ev) (hev : ev = .nilIface ∨ ∃ te pe, ev = .iface te pe) :
    Calls Tryd.prog 60 #[.string s, .int .i64 10, .int .i64 32] w fun e w' => ∃ N, e = .returned (.tuple #[.int .i64 (0), .iface 111 (.pointer (some ⟨N, 0, none⟩))]) ∧ w.heap.size ≤ N ∧ w'.heap[N]? = some (.cells #[.string ⟨#[80, 97, 114, 115, 101, 73, 110, 116]⟩, .string s, ev] 117 (0, 0)) ∧ Below w.heap.size w w' := Any.strconv_ParseInt_10_at32_syntax Tryd.laysC174 s hlim h ev w hv hev
open Go.RowKit in
/-- strconv.ParseInt(s, 10, 32), AT EVERY NUMERAL THAT NO int32 HOLDS: THE GREATEST OR THE LEAST int32, BY THE SIGN ('Lib.intSat 32'), AND AN ERROR THAT IS NOT nil: a *NumError in a new block N: {Func: "ParseInt", Num: s's bytes, Err: what the variable ErrRange holds}. Of what was there nothing has turned. (LAID: no walk: one application.) -/
theorem Tryd.strconv_ParseInt_10_at32_range (s : ByteArray) (hlim : s.size ≤ 281474976710656) (h : Lib.parseIntB 32 s.data.toList = .range) (ev : Value) (w : World) (hv : w.cell? ⟨3, 0, none⟩ = some ev) (hev : ev = .nilIface ∨ ∃ te pe, ev = .iface te pe) :
    Calls Tryd.prog 60 #[.string s, .int .i64 10, .int .i64 32] w fun e w' => ∃ N, e = .returned (.tuple #[.int .i64 (Lib.intSat 32 s.data.toList), .iface 111 (.pointer (some ⟨N, 0, none⟩))]) ∧ w.heap.size ≤ N ∧ w'.heap[N]? = some (.cells #[.string ⟨#[80, 97, 114, 115, 101, 73, 110, 116]⟩, .string s, ev] 117 (0, 0)) ∧ Below w.heap.size w w' := Any.strconv_ParseInt_10_at32_range Tryd.laysC174 s hlim h ev w hv hev
open Go.RowKit in
/-- strconv.ParseInt(s, 10, 16), AT EVERY STRING THAT SPELLS AN int16 ('Lib.parseIntB 16 s.data.toList = .ok v'): v, AND NO ERROR. (LAID: no walk: one application.) -/
theorem Tryd.strconv_ParseInt_10_at16_ok (s : ByteArray) (hmax : s.size ≤ 9223372036854775806) (v : Int) (h : Lib.parseIntB 16 s.data.toList = .ok v) (w : World) :
    Calls Tryd.prog 60 #[.string s, .int .i64 10, .int .i64 16] w fun e w' => e = .returned (.tuple #[.int .i64 v, .nilIface]) ∧ (w' = w ∨ ∃ t, w' = Lib.bytesWorld w 5 t) := Any.strconv_ParseInt_10_at16_ok Tryd.laysC174 s hmax v h w
open Go.RowKit in
/-- strconv.ParseInt(s, 10, 16), AT EVERY STRING THAT IS NO DECIMAL NUMERAL: 0, AND AN ERROR THAT IS NOT nil: a *NumError in a new block N: {Func: "ParseInt", Num: s's bytes, Err: what the variable ErrSyntax holds}. Of what was there nothing has turned. (LAID: no walk: one application.) -/
theorem Tryd.strconv_ParseInt_10_at16_syntax (s : ByteArray) (hlim : s.size ≤ 281474976710656) (h : Lib.parseIntB 16 s.data.toList = .«syntax») (ev : Value) (w : World) (hv : w.cell? ⟨2, 0, none⟩ = some ev) (hev : ev = .nilIface ∨ ∃ te pe, ev = .iface te pe) :
    Calls Tryd.prog 60 #[.string s, .int .i64 10, .int .i64 16] w fun e w' => ∃ N, e = .returned (.tuple #[.int .i64 (0), .iface 111 (.pointer (some ⟨N, 0, none⟩))]) ∧ w.heap.size ≤ N ∧ w'.heap[N]? = some (.cells #[.string ⟨#[80, 97, 114, 115, 101, 73, 110, 116]⟩, .string s, ev] 117 (0, 0)) ∧ Below w.heap.size w w' := Any.strconv_ParseInt_10_at16_syntax Tryd.laysC174 s hlim h ev w hv hev
open Go.RowKit in
/-- strconv.ParseInt(s, 10, 16), AT EVERY NUMERAL THAT NO int16 HOLDS: THE GREATEST OR THE LEAST int16, BY THE SIGN ('Lib.intSat 16'), AND AN ERROR THAT IS NOT nil: a *NumError in a new block N: {Func: "ParseInt", Num: s's bytes, Err: what the variable ErrRange holds}. Of what was there nothing has turned. (LAID: no walk: one application.) -/
theorem Tryd.strconv_ParseInt_10_at16_range (s : ByteArray) (hlim : s.size ≤ 281474976710656) (h : Lib.parseIntB 16 s.data.toList = .range) (ev : Value) (w : World) (hv : w.cell? ⟨3, 0, none⟩ = some ev) (hev : ev = .nilIface ∨ ∃ te pe, ev = .iface te pe) :
    Calls Tryd.prog 60 #[.string s, .int .i64 10, .int .i64 16] w fun e w' => ∃ N, e = .returned (.tuple #[.int .i64 (Lib.intSat 16 s.data.toList), .iface 111 (.pointer (some ⟨N, 0, none⟩))]) ∧ w.heap.size ≤ N ∧ w'.heap[N]? = some (.cells #[.string ⟨#[80, 97, 114, 115, 101, 73, 110, 116]⟩, .string s, ev] 117 (0, 0)) ∧ Below w.heap.size w w' := Any.strconv_ParseInt_10_at16_range Tryd.laysC174 s hlim h ev w hv hev
open Go.RowKit in
/-- strconv.ParseInt(s, 10, 8), AT EVERY STRING THAT SPELLS AN int8 ('Lib.parseIntB 8 s.data.toList = .ok v'): v, AND NO ERROR. (LAID: no walk: one application.) -/
theorem Tryd.strconv_ParseInt_10_at8_ok (s : ByteArray) (hmax : s.size ≤ 9223372036854775806) (v : Int) (h : Lib.parseIntB 8 s.data.toList = .ok v) (w : World) :
    Calls Tryd.prog 60 #[.string s, .int .i64 10, .int .i64 8] w fun e w' => e = .returned (.tuple #[.int .i64 v, .nilIface]) ∧ (w' = w ∨ ∃ t, w' = Lib.bytesWorld w 5 t) := Any.strconv_ParseInt_10_at8_ok Tryd.laysC174 s hmax v h w
open Go.RowKit in
/-- strconv.ParseInt(s, 10, 8), AT EVERY STRING THAT IS NO DECIMAL NUMERAL: 0, AND AN ERROR THAT IS NOT nil: a *NumError in a new block N: {Func: "ParseInt", Num: s's bytes, Err: what the variable ErrSyntax holds}. Of what was there nothing has turned. (LAID: no walk: one application.) -/
theorem Tryd.strconv_ParseInt_10_at8_syntax (s : ByteArray) (hlim : s.size ≤ 281474976710656) (h : Lib.parseIntB 8 s.data.toList = .«syntax») (ev : Value) (w : World) (hv : w.cell? ⟨2, 0, none⟩ = some ev) (hev : ev = .nilIface ∨ ∃ te pe, ev = .iface te pe) :
    Calls Tryd.prog 60 #[.string s, .int .i64 10, .int .i64 8] w fun e w' => ∃ N, e = .returned (.tuple #[.int .i64 (0), .iface 111 (.pointer (some ⟨N, 0, none⟩))]) ∧ w.heap.size ≤ N ∧ w'.heap[N]? = some (.cells #[.string ⟨#[80, 97, 114, 115, 101, 73, 110, 116]⟩, .string s, ev] 117 (0, 0)) ∧ Below w.heap.size w w' := Any.strconv_ParseInt_10_at8_syntax Tryd.laysC174 s hlim h ev w hv hev
open Go.RowKit in
/-- strconv.ParseInt(s, 10, 8), AT EVERY NUMERAL THAT NO int8 HOLDS: THE GREATEST OR THE LEAST int8, BY THE SIGN ('Lib.intSat 8'), AND AN ERROR THAT IS NOT nil: a *NumError in a new block N: {Func: "ParseInt", Num: s's bytes, Err: what the variable ErrRange holds}. Of what was there nothing has turned. (LAID: no walk: one application.) -/
theorem Tryd.strconv_ParseInt_10_at8_range (s : ByteArray) (hlim : s.size ≤ 281474976710656) (h : Lib.parseIntB 8 s.data.toList = .range) (ev : Value) (w : World) (hv : w.cell? ⟨3, 0, none⟩ = some ev) (hev : ev = .nilIface ∨ ∃ te pe, ev = .iface te pe) :
    Calls Tryd.prog 60 #[.string s, .int .i64 10, .int .i64 8] w fun e w' => ∃ N, e = .returned (.tuple #[.int .i64 (Lib.intSat 8 s.data.toList), .iface 111 (.pointer (some ⟨N, 0, none⟩))]) ∧ w.heap.size ≤ N ∧ w'.heap[N]? = some (.cells #[.string ⟨#[80, 97, 114, 115, 101, 73, 110, 116]⟩, .string s, ev] 117 (0, 0)) ∧ Below w.heap.size w w' := Any.strconv_ParseInt_10_at8_range Tryd.laysC174 s hlim h ev w hv hev
def Tryd.lays197_ren : Go.Shelf.Ren := ⟨fun | 197 => 43 | 260 => 52 | n => n, fun | 9 => 9 | 21 => 21 | 3 => 3 | 4 => 4 | 5 => 5 | 105 => 91 | 119 => 100 | 0 => 0 | 46 => 32 | 139 => 103 | 138 => 102 | n => n, fun | 3 => 0 | 4 => 1 | n => n⟩
theorem Tryd.lays197 : Go.Proofs.Lays.n197 Tryd.prog Tryd.lays197_ren := {
  mixed := by kernel_rfl
  f197 := Tryd.func43.trans (congrArg some (by kernel_rfl))
  f260 := Tryd.func52.trans (congrArg some (by kernel_rfl))
  t0 := Tryd.underlying0
  a0 := Tryd.isAgg0
  z0 := Tryd.sizeOf0
  v0 := Tryd.zeroValue0
  t3 := Tryd.underlying3
  a3 := Tryd.isAgg3
  z3 := Tryd.sizeOf3
  v3 := Tryd.zeroValue3
  t4 := Tryd.underlying4
  a4 := Tryd.isAgg4
  z4 := Tryd.sizeOf4
  v4 := Tryd.zeroValue4
  t5 := Tryd.underlying5
  a5 := Tryd.isAgg5
  z5 := Tryd.sizeOf5
  v5 := Tryd.zeroValue5
  t9 := Tryd.underlying9
  a9 := Tryd.isAgg9
  z9 := Tryd.sizeOf9
  v9 := Tryd.zeroValue9
  t21 := Tryd.underlying21
  a21 := Tryd.isAgg21
  z21 := Tryd.sizeOf21
  v21 := Tryd.zeroValue21
  t46 := Tryd.underlying32
  a46 := Tryd.isAgg32
  z46 := Tryd.sizeOf32
  v46 := Tryd.zeroValue32
  t105 := Tryd.underlying91
  a105 := Tryd.isAgg91
  z105 := Tryd.sizeOf91
  v105 := Tryd.zeroValue91
  t119 := Tryd.underlying100
  a119 := Tryd.isAgg100
  z119 := Tryd.sizeOf100
  t138 := Tryd.underlying102
  a138 := Tryd.isAgg102
  z138 := Tryd.sizeOf102
  v138 := Tryd.zeroValue102
  t139 := Tryd.underlying103
  a139 := Tryd.isAgg103
  z139 := Tryd.sizeOf103
  v139 := Tryd.zeroValue103
  g3 := by kernel_rfl
  g4 := by kernel_rfl }
open Go.RowKit Go.Lib in
/-- unicode/utf8.DecodeRuneInString: "DecodeRuneInString is like DecodeRune but its input is a string.": ("DecodeRune unpacks the first UTF-8 encoding in p and returns the rune and its width in bytes."): WHERE s BEGINS WITH AN ASCII BYTE x: (x, 1). (LAID: no walk: one application.) -/
theorem Tryd.utf8_DecodeRuneInString_ascii (s : ByteArray) (x : UInt8) (w : World) (h0 : s.data.toList[0]? = some x) (hx : x.toNat < 128) :
    Calls Tryd.prog 43 #[.string s] w fun e w' => e = .returned (.tuple #[.int .i32 x.toNat, .int .i64 1]) ∧ w' = w := Any.utf8_DecodeRuneInString_ascii Tryd.lays197 s x w h0 hx
def Tryd.lays260_ren : Go.Shelf.Ren := ⟨fun | 260 => 52 | n => n, fun | 9 => 9 | 21 => 21 | 3 => 3 | 4 => 4 | 5 => 5 | 119 => 100 | 0 => 0 | 46 => 32 | 139 => 103 | 138 => 102 | n => n, fun | 3 => 0 | 4 => 1 | n => n⟩
theorem Tryd.lays260 : Go.Proofs.Lays.n260 Tryd.prog Tryd.lays260_ren := {
  mixed := by kernel_rfl
  f260 := Tryd.func52.trans (congrArg some (by kernel_rfl))
  t0 := Tryd.underlying0
  a0 := Tryd.isAgg0
  z0 := Tryd.sizeOf0
  v0 := Tryd.zeroValue0
  t3 := Tryd.underlying3
  a3 := Tryd.isAgg3
  z3 := Tryd.sizeOf3
  v3 := Tryd.zeroValue3
  t4 := Tryd.underlying4
  a4 := Tryd.isAgg4
  z4 := Tryd.sizeOf4
  v4 := Tryd.zeroValue4
  t5 := Tryd.underlying5
  a5 := Tryd.isAgg5
  z5 := Tryd.sizeOf5
  v5 := Tryd.zeroValue5
  t9 := Tryd.underlying9
  a9 := Tryd.isAgg9
  z9 := Tryd.sizeOf9
  v9 := Tryd.zeroValue9
  t21 := Tryd.underlying21
  a21 := Tryd.isAgg21
  z21 := Tryd.sizeOf21
  v21 := Tryd.zeroValue21
  t46 := Tryd.underlying32
  a46 := Tryd.isAgg32
  z46 := Tryd.sizeOf32
  v46 := Tryd.zeroValue32
  t119 := Tryd.underlying100
  a119 := Tryd.isAgg100
  z119 := Tryd.sizeOf100
  t138 := Tryd.underlying102
  a138 := Tryd.isAgg102
  z138 := Tryd.sizeOf102
  v138 := Tryd.zeroValue102
  t139 := Tryd.underlying103
  a139 := Tryd.isAgg103
  z139 := Tryd.sizeOf103
  v139 := Tryd.zeroValue103
  g3 := by kernel_rfl
  g4 := by kernel_rfl }
open Go.RowKit Go.Lib in
theorem Tryd.utf8_decodeRuneInStringSlow (s : ByteArray) (w : World) (hT : Lib.Utf8Tabs 0 1 w) :
    Calls Tryd.prog 52 #[.string s] w fun e w' => e = .returned (.tuple #[.int .i32 (Lib.decodeGo s).1, .int .i64 (Lib.decodeGo s).2]) ∧ Below w.heap.size w w' := Any.utf8_decodeRuneInStringSlow Tryd.lays260 s w hT
open Go.RowKit Go.Lib in
/-- **unicode/utf8.DecodeRuneInString AT EVERY STRING.** (LAID: no walk: one application.) -/
theorem Tryd.utf8_DecodeRuneInString (s : ByteArray) (w : World) (hT : Lib.Utf8Tabs 0 1 w) :
    Calls Tryd.prog 43 #[.string s] w fun e w' => e = .returned (.tuple #[.int .i32 (Lib.decodeGo s).1, .int .i64 (Lib.decodeGo s).2]) ∧ Below w.heap.size w w' := Any.utf8_DecodeRuneInString Tryd.lays197 s w hT
def Tryd.laysnb116_ren : Go.Shelf.Ren := ⟨fun | 116 => 20 | 115 => 26 | n => n, fun | 37 => 41 | 4 => 4 | 3 => 3 | 9 => 9 | 5 => 5 | n => n, fun | n => n⟩
theorem Tryd.laysnb116 : Go.Proofs.Lays.nb116 Tryd.prog Tryd.laysnb116_ren := {
  mixed := by kernel_rfl
  f115 := Tryd.func26.trans (congrArg some (by kernel_rfl))
  f116 := Tryd.func20.trans (congrArg some (by kernel_rfl))
  t3 := Tryd.underlying3
  a3 := Tryd.isAgg3
  z3 := Tryd.sizeOf3
  v3 := Tryd.zeroValue3
  t4 := Tryd.underlying4
  a4 := Tryd.isAgg4
  z4 := Tryd.sizeOf4
  v4 := Tryd.zeroValue4
  t9 := Tryd.underlying9
  a9 := Tryd.isAgg9
  z9 := Tryd.sizeOf9
  v9 := Tryd.zeroValue9
  t37 := Tryd.underlying41
  a37 := Tryd.isAgg41
  z37 := Tryd.sizeOf41
  v37 := Tryd.zeroValue41
  t5 := Tryd.underlying5
  a5 := Tryd.isAgg5
  z5 := Tryd.sizeOf5
  v5 := Tryd.zeroValue5 }
theorem Tryd.bytes_HasPrefix_e2 (p1 p2 : Option Addr) (n c d : Nat) (w : World) :
    Calls Tryd.prog 20 #[.slice p1 n c, .slice p2 0 d] w fun e w' => e = .returned (.bool true) ∧ w' = w := Any.bytes_HasPrefix_e2 Tryd.laysnb116 p1 p2 n c d w
theorem Tryd.bytes_HasPrefix_e1 (p1 p2 : Option Addr) (c m d : Nat) (hm : 0 < m) (w : World) :
    Calls Tryd.prog 20 #[.slice p1 0 c, .slice p2 m d] w fun e w' => e = .returned (.bool false) ∧ w' = w := Any.bytes_HasPrefix_e1 Tryd.laysnb116 p1 p2 c m d hm w
def Tryd.laysnb139_ren : Go.Shelf.Ren := ⟨fun | 139 => 15 | 116 => 20 | 115 => 26 | n => n, fun | 37 => 41 | 4 => 4 | 3 => 3 | 9 => 9 | 5 => 5 | n => n, fun | n => n⟩
theorem Tryd.laysnb139 : Go.Proofs.Lays.nb139 Tryd.prog Tryd.laysnb139_ren := {
  mixed := by kernel_rfl
  f115 := Tryd.func26.trans (congrArg some (by kernel_rfl))
  f116 := Tryd.func20.trans (congrArg some (by kernel_rfl))
  f139 := Tryd.func15.trans (congrArg some (by kernel_rfl))
  t3 := Tryd.underlying3
  a3 := Tryd.isAgg3
  z3 := Tryd.sizeOf3
  v3 := Tryd.zeroValue3
  t4 := Tryd.underlying4
  a4 := Tryd.isAgg4
  z4 := Tryd.sizeOf4
  v4 := Tryd.zeroValue4
  t9 := Tryd.underlying9
  a9 := Tryd.isAgg9
  z9 := Tryd.sizeOf9
  v9 := Tryd.zeroValue9
  t37 := Tryd.underlying41
  a37 := Tryd.isAgg41
  z37 := Tryd.sizeOf41
  v37 := Tryd.zeroValue41
  t5 := Tryd.underlying5
  a5 := Tryd.isAgg5
  z5 := Tryd.sizeOf5
  v5 := Tryd.zeroValue5 }
theorem Tryd.bytes_TrimPrefix_e2 (p1 p2 : Option Addr) (n c d : Nat) (_hnc : n ≤ c) (w : World) :
    Calls Tryd.prog 15 #[.slice p1 n c, .slice p2 0 d] w fun e w' => e = .returned (.slice p1 n c) ∧ w' = w := Any.bytes_TrimPrefix_e2 Tryd.laysnb139 p1 p2 n c d _hnc w
theorem Tryd.bytes_TrimPrefix_e1 (p1 p2 : Option Addr) (c m d : Nat) (hm : 0 < m) (w : World) :
    Calls Tryd.prog 15 #[.slice p1 0 c, .slice p2 m d] w fun e w' => e = .returned (.slice p1 0 c) ∧ w' = w := Any.bytes_TrimPrefix_e1 Tryd.laysnb139 p1 p2 c m d hm w
/-- bytes.HasPrefix: WHOLE: each argument nil, or of no byte at whatever address, or at an address with its cells. (LAID: no walk: one application.) -/
theorem Tryd.bytes_HasPrefix_all (p1 p2 : Option Addr) (n c m d : Nat) (xs ys : List Int) (w : World) (hx : xs.length = n) (hy : ys.length = m) (hnc : n ≤ c) (h1 : Lib.BytesIn w p1 n xs) (h2 : Lib.BytesIn w p2 m ys) :
    Calls Tryd.prog 20 #[.slice p1 n c, .slice p2 m d] w fun e w' => e = .returned (.bool (Lib.hasPrefix (Lib.bytesOf xs) (Lib.bytesOf ys))) ∧ w' = w := Any.bytes_HasPrefix_all Tryd.laysnb116 p1 p2 n c m d xs ys w hx hy hnc h1 h2
/-- bytes.TrimPrefix: WHOLE. (LAID: no walk: one application.) -/
theorem Tryd.bytes_TrimPrefix_all (p1 p2 : Option Addr) (n c m d : Nat) (xs ys : List Int) (w : World) (hx : xs.length = n) (hy : ys.length = m) (hnc : n ≤ c) (h1 : Lib.BytesIn w p1 n xs) (h2 : Lib.BytesIn w p2 m ys) :
    Calls Tryd.prog 15 #[.slice p1 n c, .slice p2 m d] w fun e w' => e = .returned (Lib.trimPrefixV p1 n c xs ys) ∧ w' = w := Any.bytes_TrimPrefix_all Tryd.laysnb139 p1 p2 n c m d xs ys w hx hy hnc h1 h2
def Tryd.lays115_ren : Go.Shelf.Ren := ⟨fun | 115 => 26 | n => n, fun | 37 => 41 | 4 => 4 | 9 => 9 | 5 => 5 | n => n, fun | n => n⟩
theorem Tryd.lays115 : Go.Proofs.Lays.n115 Tryd.prog Tryd.lays115_ren := {
  mixed := by kernel_rfl
  f115 := Tryd.func26.trans (congrArg some (by kernel_rfl))
  t4 := Tryd.underlying4
  a4 := Tryd.isAgg4
  z4 := Tryd.sizeOf4
  v4 := Tryd.zeroValue4
  t9 := Tryd.underlying9
  a9 := Tryd.isAgg9
  z9 := Tryd.sizeOf9
  v9 := Tryd.zeroValue9
  t37 := Tryd.underlying41
  a37 := Tryd.isAgg41
  z37 := Tryd.sizeOf41
  v37 := Tryd.zeroValue41 }
/-- bytes.Equal: "Equal reports whether a and b are the same length and contain the same bytes. A nil argument is equivalent to an empty slice.": IT RETURNS 'the bytes of the one == the bytes of the other'; the world is as it was. THE TWO ARGUMENTS COME AS WHATEVER VALUES, each with the one fact that the walk wants of it: what 'string(..)' of it gives: for a slice whose cells you know: 'run_convert_bytes_arg' (Derived/Laws/BytesArg.lean) hands that fact; for a nil one: 'run_convert_bytes_nil' (with xs := []). (LAID: no walk: one application.) -/
theorem Tryd.bytes_Equal (v1 v2 : Value) (xs ys : List Int) (w : World) (h1 : (convert 41 9 v1).run Tryd.prog w = .ok (.string (strOfNums xs)) w) (h2 : (convert 41 9 v2).run Tryd.prog w = .ok (.string (strOfNums ys)) w) :
    Calls Tryd.prog 26 #[v1, v2] w fun e w' => e = .returned (.bool (Lib.bytesOf xs == Lib.bytesOf ys)) ∧ w' = w := Any.bytes_Equal Tryd.lays115 v1 v2 xs ys w h1 h2
/-- bytes.HasPrefix: "HasPrefix reports whether the byte slice s begins with prefix.": IT RETURNS 'Lib.hasPrefix (the bytes of s) (the bytes of prefix)'; the world is as it was. ITS CALLEE bytes.Equal IS MET BY ITS OWN CONTRACT OFF THE SHELF (lay that first). 'xs', 'ys': the numbers that the two slices' cells hold. (LAID: no walk: one application.) -/
theorem Tryd.bytes_HasPrefix (b1 o1 n c b2 o2 m d : Nat) (xs ys : List Int) (w : World) (hx : xs.length = n) (hy : ys.length = m) (hnc : n ≤ c) (hc1 : ∀ i, i < n → w.cell? ⟨b1, o1 + i, none⟩ = some (.int .u8 (xs.getD i 0))) (hc2 : ∀ i, i < m → w.cell? ⟨b2, o2 + i, none⟩ = some (.int .u8 (ys.getD i 0))) :
    Calls Tryd.prog 20 #[.slice (some ⟨b1, o1, none⟩) n c, .slice (some ⟨b2, o2, none⟩) m d] w fun e w' => e = .returned (.bool (Lib.hasPrefix (Lib.bytesOf xs) (Lib.bytesOf ys))) ∧ w' = w := Any.bytes_HasPrefix Tryd.laysnb116 b1 o1 n c b2 o2 m d xs ys w hx hy hnc hc1 hc2
/-- bytes.TrimPrefix: "TrimPrefix returns s without the provided leading prefix string. If s doesn't start with prefix, s is returned unchanged.": IT RETURNS 'Lib.bytesTrimPrefix': s[len(prefix):] OF THE ARGUMENT's OWN MEMORY where s begins with prefix, else s itself; the world is as it was. ITS CALLEE bytes.HasPrefix IS MET BY ITS OWN CONTRACT OFF THE SHELF (lay that first). (LAID: no walk: one application.) -/
theorem Tryd.bytes_TrimPrefix (b1 o1 n c b2 o2 m d : Nat) (xs ys : List Int) (w : World) (hx : xs.length = n) (hy : ys.length = m) (hnc : n ≤ c) (hc1 : ∀ i, i < n → w.cell? ⟨b1, o1 + i, none⟩ = some (.int .u8 (xs.getD i 0))) (hc2 : ∀ i, i < m → w.cell? ⟨b2, o2 + i, none⟩ = some (.int .u8 (ys.getD i 0))) :
    Calls Tryd.prog 15 #[.slice (some ⟨b1, o1, none⟩) n c, .slice (some ⟨b2, o2, none⟩) m d] w fun e w' => e = .returned (Lib.bytesTrimPrefix b1 o1 n c xs ys) ∧ w' = w := Any.bytes_TrimPrefix Tryd.laysnb139 b1 o1 n c b2 o2 m d xs ys w hx hy hnc hc1 hc2
end Go.Proofs
