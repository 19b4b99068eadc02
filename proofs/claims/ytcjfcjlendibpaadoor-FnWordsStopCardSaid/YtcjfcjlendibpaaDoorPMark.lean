/- laws.mark and laws.bare: what is bare means nothing to a shell. -/
import Derived.Test.YtcjfcjlendibpaaDoorPRows
import Derived.Lib.SlBytesConst
set_option linter.unusedVariables false
namespace Go.Proofs.YtcjfcjlendibpaaDoor
open Go.RowKit Plain Go.Proofs.YtcjfcjlendibpaaDoorW.PrintWords

def signs : List Nat := [39, 34, 92, 96, 36, 40, 41, 59, 38, 124, 60, 62, 35, 42, 63, 91, 93, 123, 125, 33, 126]
theorem plain_of (C : Nat) (h1 : 32 < C) (h2 : C < 127) (h : ∀ (i x : Nat), signs[i]? = some x → i < 21 → x ≠ C) : plainC C = true := by
  have hn : ∀ x, x ∈ signs → x ≠ C := by
    intro x hx
    obtain ⟨i, hi⟩ := List.mem_iff_getElem?.1 hx
    have := (List.getElem?_eq_some_iff.1 hi).1
    exact h i x hi (by simpa [signs] using this)
  have hall : ∀ C : Fin 127, 32 < C.1 → C.1 ∉ signs → plainC C.1 = true := by decide +kernel
  exact hall ⟨C, h2⟩ h1 (fun hm => hn C hm rfl)
def MarkPost (C : Nat) (w : World) (e : Ending) (w' : World) : Prop := ∃ b, e = .returned (.bool b) ∧ (b = false → plainC C = true) ∧ Below w.heap.size w w'
set_option maxHeartbeats 2000000 in
set_option maxRecDepth 100000 in
theorem mark_any (C : Nat) (z : Int) (hz : z = (C : Int)) (w : World) (hC : C < 256) :
    Calls Tryd.prog 28 #[.int .u8 z] w (MarkPost C w) := by
  subst hz
  by_cases h1 : C ≤ 32
  · have h1z : (C : Int) ≤ 32 := by omega
    go_enter Tryd.func28, Tryd.ntmps28
    go_wp2
    go_ret
    exact ⟨true, rfl, (fun h => by cases h), Below.refl _ _⟩
  have h1z : ¬ (C : Int) ≤ 32 := by omega
  by_cases h2 : 127 ≤ C
  · have h2z : (127 : Int) ≤ (C : Int) := by omega
    go_enter Tryd.func28, Tryd.ntmps28
    go_wp2
    go_ret
    exact ⟨true, rfl, (fun h => by cases h), Below.refl _ _⟩
  have h2z : ¬ (127 : Int) ≤ (C : Int) := by omega
  obtain ⟨W1, hW1⟩ : ∃ W1 : World, w.alloc (.cells #[.int .u8 39, .int .u8 34, .int .u8 92, .int .u8 96, .int .u8 36, .int .u8 40, .int .u8 41, .int .u8 59, .int .u8 38, .int .u8 124, .int .u8 60, .int .u8 62, .int .u8 35, .int .u8 42, .int .u8 63, .int .u8 91, .int .u8 93, .int .u8 123, .int .u8 125, .int .u8 33, .int .u8 126] 5 (21, 22)) = W1 := ⟨_, rfl⟩
  have hcell : ∀ (i x : Nat), signs[i]? = some x → W1.cell? ⟨w.heap.size, i, none⟩ = some (.int .u8 (x : Int)) := by
    intro i x hx
    have hi := (List.getElem?_eq_some_iff.1 hx).1
    rw [← hW1, World.cell?_alloc_mark]
    have e : (#[.int .u8 39, .int .u8 34, .int .u8 92, .int .u8 96, .int .u8 36, .int .u8 40, .int .u8 41, .int .u8 59, .int .u8 38, .int .u8 124, .int .u8 60, .int .u8 62, .int .u8 35, .int .u8 42, .int .u8 63, .int .u8 91, .int .u8 93, .int .u8 123, .int .u8 125, .int .u8 33, .int .u8 126] : Array Value) = (signs.map fun (x : Nat) => Value.int .u8 (x : Int)).toArray := rfl
    rw [e]
    simp [hx]
  have hbw : Below w.heap.size w W1 := by rw [← hW1]; exact (Below.refl _ w).alloc (Nat.le_refl _) _
  obtain ⟨B, hB⟩ : ∃ B, w.heap.size = B := ⟨_, rfl⟩
  rw [hB] at hcell hbw
  have HC := Lib.hid hcell
  have HBW := Lib.hid hbw
  have HBB := Lib.hid hB
  have HW1 := Lib.hid hW1
  clear hcell hbw hB hW1
  have kc := fun (w : World) (C : Array Value) (n c : Nat) => Lib.run_convert_bytes_const (P := Tryd.prog) w 56 5 C n c Tryd.underlying56 Tryd.underlying5
  go_enter Tryd.func28, Tryd.ntmps28
  go_wp2_with fail
  rw [HW1.out, HBB.out]
  go_loopg [14] 21 (fun g iv wr => ∃ k : Nat, iv = .int .i64 k ∧ k ≤ 21 ∧ g = 21 - k ∧ Hid (∀ (i x : Nat), signs[i]? = some x → i < k → x ≠ C) ∧ wr = W1)
  case atStart => exact ⟨0, rfl, Nat.zero_le _, rfl, Lib.hid (fun i x _ h => by omega), rfl⟩
  case round =>
    obtain ⟨k, rfl, hk, rfl, HN, rfl⟩ := hrel
    by_cases hkn : k < 21
    · have hkz : (k : Int) < 21 := by omega
      obtain ⟨x, hx⟩ : ∃ x, signs[k]? = some x := ⟨_, List.getElem?_eq_getElem (by simpa [signs] using hkn)⟩
      have hc := HC.out k x hx
      have HX := Lib.hid hx
      clear hx
      by_cases he : C = x
      · have hez : (C : Int) = (x : Int) := by omega
        go_wp2
        go_ret
        exact ⟨true, rfl, (fun h => by cases h), by rw [HBB.out]; exact HBW.out⟩
      · have hez : ((C : Int) == (x : Int)) = false := by rw [beq_eq_false_iff_ne]; omega
        go_wp2
        go_roundg (21 - (k + 1))
        case measure => omega
        case rel =>
          refine ⟨k + 1, by go_num, by omega, rfl, Lib.hid (fun i y hy hi => ?_), rfl⟩
          by_cases hik : i < k
          · exact HN.out i y hy hik
          · obtain rfl : i = k := by omega
            have := hy.symm.trans HX.out
            obtain rfl : y = x := Option.some.inj this
            exact fun e => he e.symm
    · have hkz : ¬ (k : Int) < 21 := by omega
      go_wp2
      go_ret
      exact ⟨false, rfl, fun _ => plain_of C (by omega) (by omega) (fun i x hx hi => HN.out i x hx (by omega)), by rw [HBB.out]; exact HBW.out⟩
end Go.Proofs.YtcjfcjlendibpaaDoor
