/- The walks of laws.long and laws.plain. -/
import Derived.Test.YtmmgjajclhhacaaDoorTSBool
import Derived.LoopTactic
namespace Go.Proofs.YtmmgjajclhhacaaDoor
open Go.RowKit
set_option maxRecDepth 100000 in
theorem long_yes (s : ByteArray) (w : World) (h : 4096 < s.size) :
    Calls Tryd.prog 6 #[.string s] w fun e w' => e = .returned (.bool true) ∧ w = w' := by
  have h1 : (4096 : Int) < (s.size : Int) := by omega
  go_enter Tryd.func6, Tryd.ntmps6
  go_wp2
  go_ret
  exact ⟨rfl, rfl⟩
set_option maxRecDepth 100000 in
theorem long_no (s : ByteArray) (w : World) (h : ¬ 4096 < s.size) :
    Calls Tryd.prog 6 #[.string s] w fun e w' => e = .returned (.bool false) ∧ w = w' := by
  have h1 : ¬ (4096 : Int) < (s.size : Int) := by omega
  go_enter Tryd.func6, Tryd.ntmps6
  go_wp2
  go_ret
  exact ⟨rfl, rfl⟩
theorem byte_at (s : ByteArray) (i : Nat) (h : i < s.size) : s.data.toList[i]? = some (s[i]'h) := by
  rw [Array.getElem?_toList, Array.getElem?_eq_getElem (by exact h)]
  rfl

set_option maxHeartbeats 1000000 in
set_option maxRecDepth 100000 in
theorem plain_any (s : ByteArray) (w : World) (hs : s.size ≤ 140737488355328) :
    Calls Tryd.prog 7 #[.string s] w fun e w' => e = .returned (.bool (decide (∀ b ∈ s.data.toList, b.toNat < 128) && decide (s.size ≤ 4096))) ∧ w' = w := by
  go_enter Tryd.func7, Tryd.ntmps7
  go_wp2
  go_loopw [3] (fun iv wr => ∃ (i : Nat), iv = .int .i64 i ∧ i ≤ s.size ∧ (∀ j b, j < i → s.data.toList[j]? = some b → b.toNat < 128) ∧ wr = w) (fun iv _ => match iv with | .int _ i => s.size - i.toNat | _ => 0)
  case atStart => exact ⟨0, rfl, Nat.zero_le _, fun j b h => by omega, rfl⟩
  case round =>
    obtain ⟨i, rfl, his, hno, rfl⟩ := hrel
    have HN := Lib.hid hno
    clear hno
    by_cases hlt : i < s.size
    · have hz : (i : Int) < (s.size : Int) := by omega
      have hat := byte_at s i hlt
      have HA := Lib.hid hat
      clear hat
      by_cases hc : 128 ≤ (s[i]'hlt).toNat
      · have hcz : (128 : Int) ≤ ((s[i]'hlt).toNat : Int) := by omega
        go_wp2
        go_ret
        refine ⟨congrArg (fun z => Ending.returned (.bool z)) ?_, rfl⟩
        have : ¬ ∀ b ∈ s.data.toList, b.toNat < 128 := fun h => by
          have := h _ (List.mem_of_getElem? HA.out)
          omega
        rw [decide_eq_false this]; rfl
      · have hcz : ¬ (128 : Int) ≤ ((s[i]'hlt).toNat : Int) := by omega
        go_wp2
        go_roundw
        case rel =>
          refine ⟨i + 1, by go_num, by omega, fun j b h1 h2 => ?_, trivial⟩
          by_cases hji : j < i
          · exact HN.out j b hji h2
          · obtain rfl : j = i := by omega
            rw [HA.out] at h2
            obtain rfl := Option.some.inj h2
            omega
        case measure => show s.size - ((i : Int) + 1).toNat < s.size - (i : Int).toNat; omega
    · have hz : ¬ (i : Int) < (s.size : Int) := by omega
      have hall : ∀ b ∈ s.data.toList, b.toNat < 128 := fun b hb => by
        obtain ⟨j, hj⟩ := List.getElem?_of_mem hb
        have := (List.getElem?_eq_some_iff.1 hj).1
        rw [← Lib.size_eq] at this
        exact HN.out j b (by omega) hj
      have HB := Lib.hid hall
      clear hall
      by_cases hl : 4096 < s.size
      · go_wp2_with (go_at_call 6; (with_reducible refine (long_yes s _ hl).mono ?_); rintro e w1 ⟨rfl, rfl⟩)
        go_ret
        exact ⟨congrArg (fun z => Ending.returned (.bool z)) (by rw [decide_eq_false (show ¬ s.size ≤ 4096 by omega), Bool.and_false]), rfl⟩
      · go_wp2_with (go_at_call 6; (with_reducible refine (long_no s _ hl).mono ?_); rintro e w1 ⟨rfl, rfl⟩)
        go_ret
        refine ⟨congrArg (fun z => Ending.returned (.bool z)) ?_, rfl⟩
        have : s.size ≤ 4096 := by omega
        rw [decide_eq_true HB.out, decide_eq_true this]; rfl
end Go.Proofs.YtmmgjajclhhacaaDoor
