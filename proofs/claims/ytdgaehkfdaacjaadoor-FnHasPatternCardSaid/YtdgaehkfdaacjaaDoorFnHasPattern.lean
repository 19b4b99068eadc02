/- The walk of the law FnHasPattern. -/
import Derived.Test.YtdgaehkfdaacjaaDoorPatAny
import Derived.Test.YtdgaehkfdaacjaaDoorSimp
set_option linter.unusedVariables false
namespace Go.Proofs.YtdgaehkfdaacjaaDoor
open Go.RowKit Plain

set_option maxHeartbeats 8000000 in
set_option maxRecDepth 100000 in
theorem fnHasPattern_walk (f t : ByteArray) (w : World) (hf0 : f.size ≤ 140737488351232) (ht0 : t.size ≤ 140737488351232) (hT : Tabs w) :
    Calls Tryd.prog 3 #[.string f, .string t] w fun e w' => e = .returned (.bool true) ∧ Below w.heap.size w w' := by
  by_cases hf : 2147483647 < f.size
  · have hzf : (2147483647 : Int) < (f.size : Int) := by omega
    go_enter Tryd.func3, Tryd.ntmps3
    go_wp2
    go_ret
    exact ⟨rfl, Below.refl _ _⟩
  have hzf : ¬ (2147483647 : Int) < (f.size : Int) := by omega
  by_cases ht : 2147483647 < t.size
  · have hzt : (2147483647 : Int) < (t.size : Int) := by omega
    go_enter Tryd.func3, Tryd.ntmps3
    go_wp2
    go_ret
    exact ⟨rfl, Below.refl _ _⟩
  have hzt : ¬ (2147483647 : Int) < (t.size : Int) := by omega
  have H1 := Lib.hid (fun w hT => iHas ⟨#[97]⟩ ⟨#[98]⟩ w hT (by decide) (by decide) true rfl)
  have H2 := Lib.hid (fun w hT => iHas ⟨#[]⟩ ⟨#[98]⟩ w hT (by decide) (by decide) false rfl)
  obtain ⟨bf, hbf⟩ : ∃ bf, decide (2 + sumSz [f, t] ≤ 400) = bf := ⟨_, rfl⟩
  have HF : Hid (∀ w : World, Calls Tryd.prog 11 #[.slice (some ⟨w.heap.size, 0, none⟩) 2 2] (w.alloc (.cells #[.string f, .string t] 9)) fun e w' => e = .returned (.bool bf) ∧ w.alloc (.cells #[.string f, .string t] 9) = w') :=
    Lib.hid (fun w => few_row [f, t] 2 rfl w (by omega) (by simp only [sumSz, List.map_cons, List.map_nil, List.sum_cons, List.sum_nil]; omega) bf hbf)
  cases bf with
  | false =>
    clear hbf
    go_enter Tryd.func3, Tryd.ntmps3
    go_wp2_with (go_at_call 10; (with_reducible refine (H1.out _ hT).mono ?_); rintro e w1 ⟨rfl, hb1⟩; dsimp only)
    have hT1 := hT.below hb1
    go_wp2_with (go_at_call 10; (with_reducible refine (H2.out _ hT1).mono ?_); rintro e w2 ⟨rfl, hb2⟩; dsimp only)
    have hB2 := bthen hb1 hb2
    go_wp2_with (go_at_call 11; (with_reducible refine (HF.out _).mono ?_); rintro e w4 ⟨rfl, rfl⟩; dsimp only)
    have hB4 := bthen hB2 ((Below.refl _ w2).alloc (Nat.le_refl _) (.cells #[.string f, .string t] 9))
    go_ret
    exact ⟨rfl, hB4⟩
  | true =>
    have hsum := of_decide_eq_true hbf
    simp only [sumSz, List.map_cons, List.map_nil, List.sum_cons, List.sum_nil] at hsum
    have hf1 : f.size ≤ 400 := by omega
    have ht1 : t.size ≤ 400 := by omega
    clear hbf hsum
    have HS := Lib.hid (fun w hT => spec_has f w (by omega) hT)
    obtain ⟨b, hb⟩ : ∃ b, (!f.data.toList.isEmpty) = b := ⟨_, rfl⟩
    have HI := Lib.hid (fun w hT => iHas f t w hT (by omega) (by omega) b hb)
    have HBE : Hid ((f.size = 0 → b = false) ∧ (f.size ≠ 0 → b = true)) := Lib.hid (by
      rw [← hb, Lib.size_eq]
      cases f.data.toList with
      | nil => simp
      | cons x y => simp)
    clear hb
    go_enter Tryd.func3, Tryd.ntmps3
    go_wp2_with (go_at_call 10; (with_reducible refine (H1.out _ hT).mono ?_); rintro e w1 ⟨rfl, hb1⟩; dsimp only)
    have hT1 := hT.below hb1
    go_wp2_with (go_at_call 10; (with_reducible refine (H2.out _ hT1).mono ?_); rintro e w2 ⟨rfl, hb2⟩; dsimp only)
    have hB2 := bthen hb1 hb2
    have hT2 := hT.below hB2
    go_wp2_with (go_at_call 11; (with_reducible refine (HF.out _).mono ?_); rintro e w4 ⟨rfl, rfl⟩; dsimp only)
    have hB4 := bthen hB2 ((Below.refl _ w2).alloc (Nat.le_refl _) (.cells #[.string f, .string t] 9))
    have hT4 := hT.below hB4
    go_wp2_with (go_at_call 12; with_reducible refine (HS.out _ hT4).mono ?_)
    rintro e w5 ⟨hh, hb5⟩
    obtain ⟨n, rfl, hn0, hn1⟩ := hh
    have hB5 := bthen hB4 hb5
    have hT5 := hT.below hB5
    dsimp only
    by_cases h0 : f.size = 0
    · obtain rfl := hn0 h0
      obtain rfl := HBE.out.1 h0
      clear hn0 hn1
      go_wp2_with (go_at_call 10; (with_reducible refine (HI.out _ hT5).mono ?_); rintro e w6 ⟨rfl, hb6⟩; dsimp only)
      go_ret
      exact ⟨rfl, bthen hB5 hb6⟩
    · obtain rfl := HBE.out.2 h0
      rcases hn1 h0 with rfl | rfl
      · clear hn0 hn1
        go_wp2_with (go_at_call 10; (with_reducible refine (HI.out _ hT5).mono ?_); rintro e w6 ⟨rfl, hb6⟩; dsimp only)
        go_ret
        exact ⟨rfl, bthen hB5 hb6⟩
      · clear hn0 hn1
        go_wp2
        go_ret
        exact ⟨rfl, hB5⟩
end Go.Proofs.YtdgaehkfdaacjaaDoor
