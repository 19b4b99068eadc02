/- laws.few of one text; laws.begins with the mark of UTF-8. -/
import Derived.Test.YtackciefmdiphaaGreatDoorLoadB
import Derived.Test.YtackciefmdiphaaGreatDoorValid
import Derived.LoopTactic
set_option linter.unusedVariables false
namespace Go.Proofs.YtackciefmdiphaaGreatDoor
open Go.RowKit Plain Go.Maps

set_option maxRecDepth 100000 in
theorem size1_any (g cap : Nat) (x : ByteArray) (w : World) (c0 : w.cell? ⟨g, 0, none⟩ = some (.string x)) (n : Nat) (hn : x.size = n) (hx : n ≤ 2147483647) :
    Calls Tryz.prog 12 #[.slice (some ⟨g, 0, none⟩) 1 cap] w fun e w' => e = .returned (.int .i64 (1 + (n : Int))) ∧ w' = w := by
  have hz : (1 : Int) + (n : Int) ≤ 4611686018427387904 := by omega
  go_enter Tryz.func12, Tryz.ntmps12
  go_wp2
  refine wp_loop_rounds 2 ?_
  rw [rounds_succ]
  go_wp2
  rw [rounds_succ]
  go_wp2
  go_ret
  exact ⟨rfl, rfl⟩
set_option maxRecDepth 100000 in
theorem few1_any (g cap : Nat) (x : ByteArray) (w : World) (c0 : w.cell? ⟨g, 0, none⟩ = some (.string x)) (n : Nat) (hn : x.size = n) (hx : n ≤ 2147483647) :
    Calls Tryz.prog 15 #[.slice (some ⟨g, 0, none⟩) 1 cap] w fun e w' => e = .returned (.bool (decide (1 + (n : Int) ≤ 400))) ∧ w' = w := by
  have HS := Lib.hid (size1_any g cap x w c0 n hn hx)
  clear c0 hn
  go_enter Tryz.func15, Tryz.ntmps15
  go_wp2_with (go_at_call 12; (with_reducible refine HS.out.mono ?_); rintro e w1 ⟨rfl, rfl⟩; dsimp only)
  go_ret
  exact ⟨rfl, rfl⟩
set_option maxRecDepth 100000 in
theorem begins_bom (s : ByteArray) (hs : s.size ≤ 2147483647) : ∃ b : Bool, (b = false → bomB s = false) ∧ ∀ w : World,
    Calls Tryz.prog 23 #[.string s, .string ⟨#[239, 187, 191]⟩] w fun e w' => e = .returned (.bool b) ∧ w' = w := by
  by_cases h3 : 3 ≤ s.size
  · have h3z : (3 : Int) ≤ (s.size : Int) := by omega
    refine ⟨((s.extract 0 3).toList == ([239, 187, 191] : List UInt8)), fun hb => ?_, ?_⟩
    · unfold bomB Lib.hasPrefix
      cases hp : List.isPrefixOf [239, 187, 191] s.data.toList with
      | false => rfl
      | true =>
        exfalso
        obtain ⟨r, hr⟩ := List.isPrefixOf_iff_prefix.1 hp
        have : (s.extract 0 3).toList = ([239, 187, 191] : List UInt8) := by
          rw [ByteArray.toList_eq, ByteArray.data_extract, Array.toList_extract, ← hr]
          rfl
        rw [this] at hb
        simp at hb
    · intro w
      go_enter Tryz.func23, Tryz.ntmps23
      go_wp2
      go_ret
      exact ⟨rfl, rfl⟩
  · have h3z : ¬ (3 : Int) ≤ (s.size : Int) := by omega
    refine ⟨false, fun _ => ?_, ?_⟩
    · unfold bomB Lib.hasPrefix
      cases hp : List.isPrefixOf [239, 187, 191] s.data.toList with
      | false => rfl
      | true =>
        have := (List.isPrefixOf_iff_prefix.1 hp).length_le
        rw [← Lib.size_eq] at this
        simp at this
        omega
    · intro w
      go_enter Tryz.func23, Tryz.ntmps23
      go_wp2
      go_ret
      exact ⟨rfl, rfl⟩
end Go.Proofs.YtackciefmdiphaaGreatDoor
