/- The walk of the law FnSqueeze. -/
import Derived.Test.YtdgaehkfdaacjaaDoorSpecSq
import Derived.Test.YtdgaehkfdaacjaaDoorSqueeze
import Derived.Test.YtdgaehkfdaacjaaDoorTold
import Derived.Test.YtdgaehkfdaacjaaDoorSimp
set_option linter.unusedVariables false
namespace Go.Proofs.YtdgaehkfdaacjaaDoor
open Go.RowKit Plain

theorem helo_eq : sqS ⟨#[]⟩ ⟨#[104, 101, 108, 108, 111]⟩ = ⟨#[104, 101, 108, 111]⟩ := by decide +kernel
theorem helo_c (w : World) (hT : Tabs w) : Calls Tryd.prog 13 #[.string ⟨#[104, 101, 108, 108, 111]⟩, .string ⟨#[]⟩] w fun e w' => e = .returned (.string ⟨#[104, 101, 108, 111]⟩) ∧ Below w.heap.size w w' := by
  have := iSqueeze ⟨#[104, 101, 108, 108, 111]⟩ ⟨#[]⟩ w (by decide) (by decide) hT
  rwa [helo_eq] at this
theorem hello2_eq : sqS ⟨#[109, 45, 122]⟩ ⟨#[104, 101, 108, 108, 111]⟩ = ⟨#[104, 101, 108, 108, 111]⟩ := by decide +kernel
theorem hello2_c (w : World) (hT : Tabs w) : Calls Tryd.prog 13 #[.string ⟨#[104, 101, 108, 108, 111]⟩, .string ⟨#[109, 45, 122]⟩] w fun e w' => e = .returned (.string ⟨#[104, 101, 108, 108, 111]⟩) ∧ Below w.heap.size w w' := by
  have := iSqueeze ⟨#[104, 101, 108, 108, 111]⟩ ⟨#[109, 45, 122]⟩ w (by decide) (by decide) hT
  rwa [hello2_eq] at this

set_option maxHeartbeats 8000000 in
set_option maxRecDepth 100000 in
theorem fnSqueeze_walk (s p : ByteArray) (w : World) (hs0 : s.size ≤ 140737488351232) (hp0 : p.size ≤ 140737488351232) (hT : Tabs w) :
    Calls Tryd.prog 4 #[.string s, .string p] w fun e w' => e = .returned (.bool true) ∧ Below w.heap.size w w' := by
  by_cases hs : 2147483647 < s.size
  · have hzs : (2147483647 : Int) < (s.size : Int) := by omega
    go_enter Tryd.func4, Tryd.ntmps4
    go_wp2
    go_ret
    exact ⟨rfl, Below.refl _ _⟩
  have hzs : ¬ (2147483647 : Int) < (s.size : Int) := by omega
  by_cases hp : 2147483647 < p.size
  · have hzp : (2147483647 : Int) < (p.size : Int) := by omega
    go_enter Tryd.func4, Tryd.ntmps4
    go_wp2
    go_ret
    exact ⟨rfl, Below.refl _ _⟩
  have hzp : ¬ (2147483647 : Int) < (p.size : Int) := by omega
  have HC1 := Lib.hid helo_c
  have HC2 := Lib.hid hello2_c
  obtain ⟨bf, hbf⟩ : ∃ bf, decide (2 + sumSz [s, p] ≤ 400) = bf := ⟨_, rfl⟩
  have HF : Hid (∀ w : World, Calls Tryd.prog 11 #[.slice (some ⟨w.heap.size, 0, none⟩) 2 2] (w.alloc (.cells #[.string s, .string p] 9)) fun e w' => e = .returned (.bool bf) ∧ w.alloc (.cells #[.string s, .string p] 9) = w') :=
    Lib.hid (fun w => few_row [s, p] 2 rfl w (by omega) (by simp only [sumSz, List.map_cons, List.map_nil, List.sum_cons, List.sum_nil]; omega) bf hbf)
  cases bf with
  | false =>
    clear hbf
    go_enter Tryd.func4, Tryd.ntmps4
    go_wp2_with (go_at_call 13; (with_reducible refine (HC1.out _ hT).mono ?_); rintro e w0 ⟨rfl, hb0⟩; dsimp only)
    have hT0 := hT.below hb0
    go_wp2_with (go_at_call 13; (with_reducible refine (HC2.out _ hT0).mono ?_); rintro e w1 ⟨rfl, hb1⟩; dsimp only)
    have hB1 := bthen hb0 hb1
    go_wp2_with (go_at_call 11; (with_reducible refine (HF.out _).mono ?_); rintro e w4 ⟨rfl, rfl⟩; dsimp only)
    have hB4 := bthen hB1 ((Below.refl _ w1).alloc (Nat.le_refl _) (.cells #[.string s, .string p] 9))
    have hT4 := hT.below hB4
    go_ret
    exact ⟨rfl, hB4⟩
  | true =>
    have hsum := of_decide_eq_true hbf
    simp only [sumSz, List.map_cons, List.map_nil, List.sum_cons, List.sum_nil] at hsum
    have hs1 : s.size ≤ 400 := by omega
    have hp1 : p.size ≤ 400 := by omega
    clear hbf hsum
    have HSp := Lib.hid (fun w hT => specSqueeze_any s p w (by omega) (by omega) hT)
    have HIm := Lib.hid (fun w hT => iSqueeze s p w (by omega) (by omega) hT)
    go_enter Tryd.func4, Tryd.ntmps4
    go_wp2_with (go_at_call 13; (with_reducible refine (HC1.out _ hT).mono ?_); rintro e w0 ⟨rfl, hb0⟩; dsimp only)
    have hT0 := hT.below hb0
    go_wp2_with (go_at_call 13; (with_reducible refine (HC2.out _ hT0).mono ?_); rintro e w1 ⟨rfl, hb1⟩; dsimp only)
    have hB1 := bthen hb0 hb1
    go_wp2_with (go_at_call 11; (with_reducible refine (HF.out _).mono ?_); rintro e w4 ⟨rfl, rfl⟩; dsimp only)
    have hB4 := bthen hB1 ((Below.refl _ w1).alloc (Nat.le_refl _) (.cells #[.string s, .string p] 9))
    have hT4 := hT.below hB4
    go_wp2_with (go_at_call 14; with_reducible refine (HSp.out _ hT4).mono ?_)
    rintro e w5 ⟨ha, hb5⟩
    have hB5 := bthen hB4 hb5
    have hT5 := hT.below hB5
    rcases ha with ⟨z, rfl⟩ | ⟨L, nt, rfl, hvp, hvs, hpat⟩
    · dsimp only
      go_wp2_with (go_at_call 13; (with_reducible refine (HIm.out _ hT5).mono ?_); rintro e w6 ⟨rfl, hb6⟩; dsimp only)
      generalize sqS p s = T
      go_wp2_with (go_at_call 15; (with_reducible refine (told_open T z 2 (by decide) _).mono ?_); rintro e w7 ⟨rfl, rfl⟩; dsimp only)
      go_ret
      exact ⟨rfl, bthen hB5 hb6⟩
    · have hst := sq_text hvp hvs hpat
      rw [show textOf (sqR (sqQ p L nt) none (rnsL s.data.toList)) = sqS p s from hst]
      clear hvp hvs hpat hst
      generalize sqS p s = T at HIm ⊢
      dsimp only
      go_wp2_with (go_at_call 13; (with_reducible refine (HIm.out _ hT5).mono ?_); rintro e w6 ⟨rfl, hb6⟩; dsimp only)
      go_wp2_with (go_at_call 15; (with_reducible refine (told_same T _).mono ?_); rintro e w7 ⟨rfl, rfl⟩; dsimp only)
      go_ret
      exact ⟨rfl, bthen hB5 hb6⟩
end Go.Proofs.YtdgaehkfdaacjaaDoor
