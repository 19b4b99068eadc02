/- strings.Builder's WriteRune. -/
import Derived.Test.YtdgaehkfdaacjaaDoorBuild
import Derived.Shelf.Strings.BuilderRune
namespace Go.Proofs.YtdgaehkfdaacjaaDoor
open Go.Shelf Go.RowKit Plain

def rRen : Go.Shelf.Ren := ⟨fun | 168 => 50 | 242 => 54 | 278 => 57 | n => bRen.f n, fun | 21 => 21 | 46 => 80 | 51 => 99 | n => bRen.t n, fun | n => n⟩
theorem xlays168 : Go.Proofs.Lays.n168 Tryd.prog rRen := {
  mixed := by kernel_rfl
  f168 := Tryd.func50.trans (congrArg some (by kernel_rfl))
  f240 := Tryd.func53.trans (congrArg some (by kernel_rfl))
  f242 := Tryd.func54.trans (congrArg some (by kernel_rfl))
  f278 := Tryd.func57.trans (congrArg some (by kernel_rfl))
  f276 := Tryd.lays165.f276
  t0 := Tryd.lays165.t0
  a0 := Tryd.lays165.a0
  z0 := Tryd.lays165.z0
  v0 := Tryd.lays165.v0
  t3 := Tryd.lays165.t3
  a3 := Tryd.lays165.a3
  z3 := Tryd.lays165.z3
  v3 := Tryd.lays165.v3
  t4 := Tryd.lays165.t4
  a4 := Tryd.lays165.a4
  z4 := Tryd.lays165.z4
  v4 := Tryd.lays165.v4
  t5 := Tryd.underlying5
  a5 := Tryd.isAgg5
  z5 := Tryd.sizeOf5
  v5 := Tryd.zeroValue5
  t9 := Tryd.lays165.t9
  a9 := Tryd.lays165.a9
  z9 := Tryd.lays165.z9
  v9 := Tryd.lays165.v9
  t20 := Tryd.lays165.t20
  a20 := Tryd.lays165.a20
  z20 := Tryd.lays165.z20
  v20 := Tryd.lays165.v20
  t21 := Tryd.underlying21
  a21 := Tryd.isAgg21
  z21 := Tryd.sizeOf21
  v21 := Tryd.zeroValue21
  t37 := Tryd.lays165.t37
  a37 := Tryd.lays165.a37
  z37 := Tryd.lays165.z37
  v37 := Tryd.lays165.v37
  t46 := Tryd.underlying80
  a46 := Tryd.isAgg80
  z46 := Tryd.sizeOf80
  v46 := Tryd.zeroValue80
  t51 := Tryd.underlying99
  a51 := Tryd.isAgg99
  z51 := Tryd.sizeOf99
  v51 := Tryd.zeroValue99
  t70 := Tryd.lays165.t70
  a70 := Tryd.lays165.a70
  z70 := Tryd.lays165.z70
  v70 := Tryd.lays165.v70
  t72 := Tryd.lays165.t72
  a72 := Tryd.lays165.a72
  z72 := Tryd.lays165.z72
  v72 := Tryd.lays165.v72
  t75 := Tryd.underlying71
  a75 := Tryd.isAgg71
  z75 := Tryd.sizeOf71
  v75 := Tryd.zeroValue71
  t164 := Tryd.lays165.t164
  a164 := Tryd.lays165.a164
  z164 := Tryd.lays165.z164
  v164 := Tryd.lays165.v164 }
theorem rExtra : Builder.Extra Tryd.prog rRen := {
  sizeBuilder := Tryd.Builder_Extra_165.sizeBuilder
  liesBuilder := Tryd.Builder_Extra_165.liesBuilder
  t5 := Tryd.Builder_Extra_165.t5
  a5 := Tryd.Builder_Extra_165.a5
  z5 := Tryd.Builder_Extra_165.z5
  v5 := Tryd.Builder_Extra_165.v5
  infoByte := Tryd.Builder_Extra_165.infoByte
  cellsByte := Tryd.Builder_Extra_165.cellsByte
  sizeByte := Tryd.Builder_Extra_165.sizeByte
  neB5 := Tryd.Builder_Extra_165.neB5 }

theorem writeRune_any (b : Nat) (l : List UInt8) (r : Int) (w : World) (hr0 : -2147483648 ≤ r) (hr1 : r ≤ 2147483647) (h : IsB b l w) (hlen : l.length + 4 ≤ 140737488355328) :
    Calls Tryd.prog 50 #[.pointer (some ⟨b, 0, none⟩), .int .i32 r] w fun e w' => e = .returned (.tuple #[.int .i64 (Lib.runeCells r).length, .nilIface]) ∧ IsB b (l ++ Lib.encodeRune r) w' ∧ Below b w w' ∧ Lib.OthersKept 5 (some b) w w' := by
  refine (Any.Builder_WriteRune_k xlays168 rExtra b b (Lib.byteCells l) r hr0 hr1 w h (by rw [Lib.byteCells_length]; exact hlen) (Nat.le_of_lt h.lt)).mono ?_
  rintro e w' ⟨rfl, hk, hb, ho⟩
  refine ⟨rfl, ?_, hb, ho⟩
  rw [← Lib.byteCells_encodeRune, ← byteCells_app] at hk
  exact .inr hk
end Go.Proofs.YtdgaehkfdaacjaaDoor
