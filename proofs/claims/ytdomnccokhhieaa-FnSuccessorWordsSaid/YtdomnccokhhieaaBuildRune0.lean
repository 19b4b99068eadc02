/- strings.Builder's WriteRune. -/
import Derived.Test.YtdomnccokhhieaaBuild0
import Derived.Shelf.Strings.BuilderRune
namespace Go.Proofs.Ytdomnccokhhieaa
open Go.Shelf Go.RowKit Plain

def rRen : Go.Shelf.Ren := ⟨fun | 168 => 11 | 242 => 15 | 278 => 18 | n => bRen.f n, fun | 21 => 21 | 46 => 45 | 51 => 44 | n => bRen.t n, fun | n => n⟩
theorem xlays168 : Go.Proofs.Lays.n168 Try.prog rRen := {
  mixed := by kernel_rfl
  f168 := Try.func11.trans (congrArg some (by kernel_rfl))
  f240 := Try.func13.trans (congrArg some (by kernel_rfl))
  f242 := Try.func15.trans (congrArg some (by kernel_rfl))
  f278 := Try.func18.trans (congrArg some (by kernel_rfl))
  f276 := Try.lays165.f276
  t0 := Try.lays165.t0
  a0 := Try.lays165.a0
  z0 := Try.lays165.z0
  v0 := Try.lays165.v0
  t3 := Try.lays165.t3
  a3 := Try.lays165.a3
  z3 := Try.lays165.z3
  v3 := Try.lays165.v3
  t4 := Try.lays165.t4
  a4 := Try.lays165.a4
  z4 := Try.lays165.z4
  v4 := Try.lays165.v4
  t5 := Try.underlying5
  a5 := Try.isAgg5
  z5 := Try.sizeOf5
  v5 := Try.zeroValue5
  t9 := Try.lays165.t9
  a9 := Try.lays165.a9
  z9 := Try.lays165.z9
  v9 := Try.lays165.v9
  t20 := Try.lays165.t20
  a20 := Try.lays165.a20
  z20 := Try.lays165.z20
  v20 := Try.lays165.v20
  t21 := Try.underlying21
  a21 := Try.isAgg21
  z21 := Try.sizeOf21
  v21 := Try.zeroValue21
  t37 := Try.lays165.t37
  a37 := Try.lays165.a37
  z37 := Try.lays165.z37
  v37 := Try.lays165.v37
  t46 := Try.underlying45
  a46 := Try.isAgg45
  z46 := Try.sizeOf45
  v46 := Try.zeroValue45
  t51 := Try.underlying44
  a51 := Try.isAgg44
  z51 := Try.sizeOf44
  v51 := Try.zeroValue44
  t70 := Try.lays165.t70
  a70 := Try.lays165.a70
  z70 := Try.lays165.z70
  v70 := Try.lays165.v70
  t72 := Try.lays165.t72
  a72 := Try.lays165.a72
  z72 := Try.lays165.z72
  v72 := Try.lays165.v72
  t75 := Try.underlying34
  a75 := Try.isAgg34
  z75 := Try.sizeOf34
  v75 := Try.zeroValue34
  t164 := Try.lays165.t164
  a164 := Try.lays165.a164
  z164 := Try.lays165.z164
  v164 := Try.lays165.v164 }
theorem rExtra : Builder.Extra Try.prog rRen := {
  sizeBuilder := Try.Builder_Extra_165.sizeBuilder
  liesBuilder := Try.Builder_Extra_165.liesBuilder
  t5 := Try.Builder_Extra_165.t5
  a5 := Try.Builder_Extra_165.a5
  z5 := Try.Builder_Extra_165.z5
  v5 := Try.Builder_Extra_165.v5
  infoByte := Try.Builder_Extra_165.infoByte
  cellsByte := Try.Builder_Extra_165.cellsByte
  sizeByte := Try.Builder_Extra_165.sizeByte
  neB5 := Try.Builder_Extra_165.neB5 }

theorem writeRune_any (b : Nat) (l : List UInt8) (r : Int) (w : World) (hr0 : -2147483648 ≤ r) (hr1 : r ≤ 2147483647) (h : IsB b l w) (hlen : l.length + 4 ≤ 140737488355328) :
    Calls Try.prog 11 #[.pointer (some ⟨b, 0, none⟩), .int .i32 r] w fun e w' => e = .returned (.tuple #[.int .i64 (Lib.runeCells r).length, .nilIface]) ∧ IsB b (l ++ Lib.encodeRune r) w' ∧ Below b w w' ∧ Lib.OthersKept 5 (some b) w w' := by
  refine (Any.Builder_WriteRune_k xlays168 rExtra b b (Lib.byteCells l) r hr0 hr1 w h (by rw [Lib.byteCells_length]; exact hlen) (Nat.le_of_lt h.lt)).mono ?_
  rintro e w' ⟨rfl, hk, hb, ho⟩
  refine ⟨rfl, ?_, hb, ho⟩
  rw [← Lib.byteCells_encodeRune, ← byteCells_app] at hk
  exact .inr hk
end Go.Proofs.Ytdomnccokhhieaa
