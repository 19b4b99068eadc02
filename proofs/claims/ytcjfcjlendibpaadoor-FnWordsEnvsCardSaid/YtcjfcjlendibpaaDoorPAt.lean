/- The walk of laws.at: the first place of a text in another one. -/
import Derived.Test.YtcjfcjlendibpaaDoorPMem
namespace Go.Proofs.YtcjfcjlendibpaaDoor
open Go.RowKit Plain

/-- what 'at' says -/
def AtRes (s t : List UInt8) (f : Nat) (r : Int) : Prop :=
  (r = -1 ∧ ∀ i, f ≤ i → i + t.length ≤ s.length → ¬ (s.drop i).take t.length = t) ∨ ∃ k : Nat, r = k ∧ f ≤ k ∧ k + t.length ≤ s.length ∧ (s.drop k).take t.length = t ∧ ∀ i, f ≤ i → i < k → ¬ (s.drop i).take t.length = t

set_option maxHeartbeats 1000000 in
set_option maxRecDepth 100000 in
theorem at_any (s t : ByteArray) (f : Nat) (w : World) (hs : s.size ≤ 140737488355328) (ht : t.size ≤ 140737488355328) (hf : f ≤ 140737488355328) :
    Calls Tryd.prog 21 #[.string s, .string t, .int .i64 (f : Int)] w fun e w' => ∃ r, e = .returned (.int .i64 r) ∧ AtRes s.data.toList t.data.toList f r ∧ w' = w := by
  go_enter Tryd.func21, Tryd.ntmps21
  go_wp2
  go_loopw [7] (fun iv wr => ∃ (i : Nat), iv = .int .i64 i ∧ f ≤ i ∧ i ≤ 140737488355329 ∧ (∀ j, f ≤ j → j < i → j + t.size ≤ s.size → ¬ (s.data.toList.drop j).take t.data.toList.length = t.data.toList) ∧ wr = w) (fun iv _ => match iv with | .int _ i => s.size + 1 - i.toNat | _ => 0)
  case atStart => exact ⟨f, rfl, Nat.le_refl _, by omega, fun j h1 h2 => by omega, rfl⟩
  case round =>
    obtain ⟨i, rfl, hfi, hib, hno, rfl⟩ := hrel
    have HN := Lib.hid hno
    clear hno
    by_cases hle : i + t.size ≤ s.size
    · obtain ⟨E, hE⟩ : ∃ E, i + t.size = E := ⟨_, rfl⟩
      have hEz : (i : Int) + (t.size : Int) = (E : Int) := by omega
      have hEs : E ≤ s.size := by omega
      have hiE : i ≤ E := by omega
      have hi : i ≤ 140737488355328 := by omega
      have HE := Lib.hid hE
      clear hE
      by_cases hm : (s.extract i E).toList = t.toList
      · have hmb : ((s.extract i E).toList == t.toList) = true := by rw [beq_iff_eq]; exact hm
        go_wp2
        go_ret
        have hE := HE.out
        refine ⟨_, rfl, .inr ⟨i, rfl, hfi, by rw [← Lib.size_eq, ← Lib.size_eq]; omega, ?_, fun j h1 h2 => HN.out j h1 h2 (by omega)⟩, rfl⟩
        rw [Lib.extract_toList, Lib.toList_data] at hm
        rw [← hm]
        congr 1
        rw [hm, ← Lib.size_eq]
        omega
      · have hmb : ((s.extract i E).toList == t.toList) = false := by rw [beq_eq_false_iff_ne]; exact hm
        go_wp2
        go_roundw
        case rel =>
          have hE := HE.out
          refine ⟨i + 1, by go_num, by omega, by omega, fun j h1 h2 h3 => ?_, trivial⟩
          by_cases hji : j < i
          · exact HN.out j h1 hji h3
          · obtain rfl : j = i := by omega
            intro h4
            apply hm
            rw [Lib.extract_toList, Lib.toList_data, ← h4]
            congr 1
            rw [← Lib.size_eq]
            omega
        case measure => show s.size + 1 - ((i : Int) + 1).toNat < s.size + 1 - (i : Int).toNat; omega
    · have hz : ¬ (i : Int) + (t.size : Int) ≤ (s.size : Int) := by omega
      go_wp2
      go_ret
      refine ⟨_, rfl, .inl ⟨rfl, fun j h1 h2 => ?_⟩, rfl⟩
      rw [← Lib.size_eq, ← Lib.size_eq] at h2
      exact HN.out j h1 (by omega) h2
end Go.Proofs.YtcjfcjlendibpaaDoor
