/- The walk of the law FnSnakeTwice. -/
import Derived.Test.YtpbehdlgmpmkaaaDoorCaseImpl
set_option linter.unusedVariables false
namespace Go.Proofs.YtpbehdlgmpmkaaaDoor
open Go.RowKit Plain

theorem aS_eq : delS 95 ⟨#[]⟩ false ⟨#[97, 66]⟩ = ⟨#[97, 95, 98]⟩ := by decide +kernel
theorem aS_any (w : World) (hT : STab w) : Calls Tryd.prog 11 #[.string ⟨#[97, 66]⟩] w fun e w' => e = .returned (.string ⟨#[97, 95, 98]⟩) ∧ Below w.heap.size w w' := by
  have := iSnake ⟨#[97, 66]⟩ w (by decide) hT
  rwa [aS_eq] at this

set_option maxHeartbeats 4000000 in
set_option maxRecDepth 100000 in
theorem fnSnakeTwice_walk (s : ByteArray) (w : World) (hs0 : s.size ≤ 140737488351232) (hT0 : STab w) :
    Calls Tryd.prog 4 #[.string s] w fun e w' => e = .returned (.bool true) ∧ Below w.heap.size w w' := by
  by_cases hb : 2147483647 < s.size
  · have hbz : (2147483647 : Int) < (s.size : Int) := by omega
    go_enter Tryd.func4, Tryd.ntmps4
    go_wp2
    go_ret
    exact ⟨rfl, Below.refl _ _⟩
  have hbz : ¬ (2147483647 : Int) < (s.size : Int) := by omega
  have cB : ∀ w, STab w → Calls Tryd.prog 11 #[.string s] w fun e w' => e = .returned (.string (delS 95 ⟨#[]⟩ false s)) ∧ Below w.heap.size w w' := fun w hT => iSnake s w (by omega) hT
  have KB := Lib.hid cB
  clear cB
  cases hv : plB s with
  | false =>
    have HV := Lib.hid (plB_any s (by omega) _ hv)
    clear hv
    go_enter Tryd.func4, Tryd.ntmps4
    go_wp2_with (go_at_call 11; (with_reducible refine (aS_any _ hT0).mono ?_); rintro e w21 ⟨rfl, hb1⟩; dsimp only)
    have hT1 := hT0.below hb1
    have hB1 := hb1
    go_wp2_with (go_at_call 11; (with_reducible refine (KB.out _ hT1).mono ?_); rintro e w22 ⟨rfl, hb2⟩; dsimp only)
    have hT2 := hT1.below hb2
    have hB2 := bthen hB1 hb2
    go_wp2_with (go_at_call 12; (with_reducible refine (HV.out _).mono ?_); rintro e w9 ⟨rfl, rfl⟩; dsimp only)
    go_wp2
    go_ret
    exact ⟨rfl, hB2⟩
  | true =>
    have HV := Lib.hid (plB_any s (by omega) _ hv)
    obtain ⟨hs1, has⟩ := plB_ok hv
    clear hv
    have hz1 := delS_size 95 ⟨#[]⟩ false s
    have hz2 := delS_size 45 ⟨#[]⟩ false s
    have cD : ∀ w, STab w → Calls Tryd.prog 13 #[.string (s)] w fun e w' => e = .returned (.string (delS 45 ⟨#[]⟩ false s)) ∧ Below w.heap.size w w' := fun w hT => iKebab s w (by omega) hT
    have cE : ∀ w, STab w → Calls Tryd.prog 11 #[.string (delS 95 ⟨#[]⟩ false s)] w fun e w' => e = .returned (.string (delS 95 ⟨#[]⟩ false s)) ∧ Below w.heap.size w w' := fun w hT => by
      have := iSnake (delS 95 ⟨#[]⟩ false s) w (by omega) hT
      rwa [delS_twice 95 95 rfl rfl (by decide) s has] at this
    have cF : ∀ w, STab w → Calls Tryd.prog 11 #[.string (delS 45 ⟨#[]⟩ false s)] w fun e w' => e = .returned (.string (delS 95 ⟨#[]⟩ false s)) ∧ Below w.heap.size w w' := fun w hT => by
      have := iSnake (delS 45 ⟨#[]⟩ false s) w (by omega) hT
      rwa [delS_twice 45 95 rfl rfl (by decide) s has] at this
    have cG : ∀ w, STab w → Calls Tryd.prog 13 #[.string (delS 95 ⟨#[]⟩ false s)] w fun e w' => e = .returned (.string (delS 45 ⟨#[]⟩ false s)) ∧ Below w.heap.size w w' := fun w hT => by
      have := iKebab (delS 95 ⟨#[]⟩ false s) w (by omega) hT
      rwa [delS_twice 95 45 rfl rfl (by decide) s has] at this
    generalize delS 95 ⟨#[]⟩ false s = B at cD cE cF cG hz1 KB
    generalize delS 45 ⟨#[]⟩ false s = D at cD cE cF cG hz2
    have KD := Lib.hid cD
    have KE := Lib.hid cE
    have KF := Lib.hid cF
    have KG := Lib.hid cG
    clear cD cE cF cG has
    go_enter Tryd.func4, Tryd.ntmps4
    go_wp2_with (go_at_call 11; (with_reducible refine (aS_any _ hT0).mono ?_); rintro e w21 ⟨rfl, hb1⟩; dsimp only)
    have hT1 := hT0.below hb1
    have hB1 := hb1
    go_wp2_with (go_at_call 11; (with_reducible refine (KB.out _ hT1).mono ?_); rintro e w22 ⟨rfl, hb2⟩; dsimp only)
    have hT2 := hT1.below hb2
    have hB2 := bthen hB1 hb2
    go_wp2_with (go_at_call 12; (with_reducible refine (HV.out _).mono ?_); rintro e w9 ⟨rfl, rfl⟩; dsimp only)
    go_wp2_with (go_at_call 11; (with_reducible refine (KE.out _ hT2).mono ?_); rintro e w23 ⟨rfl, hb3⟩; dsimp only)
    have hT3 := hT2.below hb3
    have hB3 := bthen hB2 hb3
    go_wp2_with (go_at_call 13; (with_reducible refine (KD.out _ hT3).mono ?_); rintro e w24 ⟨rfl, hb4⟩; dsimp only)
    have hT4 := hT3.below hb4
    have hB4 := bthen hB3 hb4
    go_wp2_with (go_at_call 11; (with_reducible refine (KF.out _ hT4).mono ?_); rintro e w25 ⟨rfl, hb5⟩; dsimp only)
    have hT5 := hT4.below hb5
    have hB5 := bthen hB4 hb5
    go_wp2_with (go_at_call 13; (with_reducible refine (KG.out _ hT5).mono ?_); rintro e w26 ⟨rfl, hb6⟩; dsimp only)
    have hT6 := hT5.below hb6
    have hB6 := bthen hB5 hb6
    go_wp2_with (go_at_call 13; (with_reducible refine (KD.out _ hT6).mono ?_); rintro e w27 ⟨rfl, hb7⟩; dsimp only)
    have hT7 := hT6.below hb7
    have hB7 := bthen hB6 hb7
    go_wp2
    go_ret
    exact ⟨rfl, hB7⟩
end Go.Proofs.YtpbehdlgmpmkaaaDoor
