/- The walk of the properties' zzHex4. -/
import Derived.Test.YtgmhigjhooihdaaGreatDoorDec
import Derived.LoopTactic
import Derived.RegionTactic
import Derived.Lib.QuoteBits
import Derived.Laws.BytesArg
import Derived.Lib.ConvBytes
set_option linter.unusedVariables false
namespace Go.Proofs.YtgmhigjhooihdaaGreatDoor
open Go.RowKit

def hex4N (A : Nat) : Nat := if h : A < 16 then ((⟨#[48, 49, 50, 51, 52, 53, 54, 55, 56, 57, 97, 98, 99, 100, 101, 102]⟩ : ByteArray)[A]'h).toNat else 0
def hex4F (R : Nat) : ByteArray := ⟨#[92, 117]⟩ ++ strOfNums [(hex4N (R / 4096 % 16) : Int), (hex4N (R / 256 % 16) : Int), (hex4N (R / 16 % 16) : Int), (hex4N (R % 16) : Int)]
theorem hex4F_size (R : Nat) : (hex4F R).size = 6 := by
  unfold hex4F
  rw [ByteArray.size_append]
  rfl
set_option maxRecDepth 100000 in
theorem hex4_any (R : Nat) (w : World) (h2 : R ≤ 65535) : Calls Tryz.prog 105 #[.int .i32 (R : Int)] w fun e w' => e = .returned (.string (hex4F R)) ∧ Below w.heap.size w w' := by
  unfold hex4F
  obtain ⟨A3, hA3⟩ : ∃ a, R / 4096 % 16 = a := ⟨_, rfl⟩
  obtain ⟨A2, hA2⟩ : ∃ a, R / 256 % 16 = a := ⟨_, rfl⟩
  obtain ⟨A1, hA1⟩ : ∃ a, R / 16 % 16 = a := ⟨_, rfl⟩
  obtain ⟨A0, hA0⟩ : ∃ a, R % 16 = a := ⟨_, rfl⟩
  have e3 : bits .and .i32 ((R : Int) / 4096) 15 = (A3 : Int) := hA3 ▸ Lib.and15_shift (R : Int) R rfl (by omega) 4096
  have e2 : bits .and .i32 ((R : Int) / 256) 15 = (A2 : Int) := hA2 ▸ Lib.and15_shift (R : Int) R rfl (by omega) 256
  have e1 : bits .and .i32 ((R : Int) / 16) 15 = (A1 : Int) := hA1 ▸ Lib.and15_shift (R : Int) R rfl (by omega) 16
  have e0 : bits .and .i32 (R : Int) 15 = (A0 : Int) := hA0 ▸ Lib.and15_i32 R (by omega)
  have l3 : A3 < 16 := by omega
  have l2 : A2 < 16 := by omega
  have l1 : A1 < 16 := by omega
  have l0 : A0 < 16 := by omega
  have m3 : (A3 : Int) < 16 := by omega
  have m2 : (A2 : Int) < 16 := by omega
  have m1 : (A1 : Int) < 16 := by omega
  have m0 : (A0 : Int) < 16 := by omega
  rw [hA3, hA2, hA1, hA0]
  clear hA3 hA2 hA1 hA0 h2
  have HC := fun (a b c d : Nat) => run_convert_bytes_arg (P := Tryz.prog) ((w.alloc (.cells #[.int .u8 (a : Int), .int .u8 (b : Int), .int .u8 (c : Int), .int .u8 (d : Int)] 5)).drew) 83 5 Tryz.underlying83 Tryz.underlying5 w.heap.size 0 4 4 [(a : Int), (b : Int), (c : Int), (d : Int)] rfl (fun i hi => by
    show (w.alloc _).cell? _ = _
    rw [Nat.zero_add, World.cell?_alloc_new]
    match i, hi with
    | 0, _ => rfl
    | 1, _ => rfl
    | 2, _ => rfl
    | 3, _ => rfl) 9 Tryz.underlying9
  have hsz : ∀ a b c d : Int, (strOfNums [a, b, c, d]).size = 4 := fun a b c d => rfl
  go_enter Tryz.func105, Tryz.ntmps105
  go_wp2
  go_region
  go_wp2
  go_ret
  unfold hex4N
  rw [dif_pos l3, dif_pos l2, dif_pos l1, dif_pos l0]
  exact ⟨rfl, Below.drew ((Below.refl _ _).alloc (Nat.le_refl _) _)⟩
end Go.Proofs.YtgmhigjhooihdaaGreatDoor
