/- The walk of the law FnScreaming. -/
import Derived.Test.YtpbehdlgmpmkaaaDoorCaseImpl
set_option linter.unusedVariables false
namespace Go.Proofs.YtpbehdlgmpmkaaaDoor
open Go.RowKit Plain

theorem aS_eq : delS 95 ⟨#[]⟩ true ⟨#[97, 66]⟩ = ⟨#[65, 95, 66]⟩ := by decide +kernel
theorem aS_any (w : World) (hT : STab w) : Calls Tryd.prog 14 #[.string ⟨#[97, 66]⟩] w fun e w' => e = .returned (.string ⟨#[65, 95, 66]⟩) ∧ Below w.heap.size w w' := by
  have := iSSnake ⟨#[97, 66]⟩ w (by decide) hT
  rwa [aS_eq] at this

set_option maxHeartbeats 4000000 in
set_option maxRecDepth 100000 in
theorem fnScreaming_walk (s : ByteArray) (w : World) (hs0 : s.size ≤ 140737488351232) (hT0 : STab w) :
    Calls Tryd.prog 5 #[.string s] w fun e w' => e = .returned (.bool true) ∧ Below w.heap.size w w' := by
  by_cases hb : 2147483647 < s.size
  · have hbz : (2147483647 : Int) < (s.size : Int) := by omega
    go_enter Tryd.func5, Tryd.ntmps5
    go_wp2
    go_ret
    exact ⟨rfl, Below.refl _ _⟩
  have hbz : ¬ (2147483647 : Int) < (s.size : Int) := by omega
  cases hv : plB s with
  | false =>
    have HV := Lib.hid (plB_any s (by omega) _ hv)
    clear hv
    go_enter Tryd.func5, Tryd.ntmps5
    go_wp2_with (go_at_call 14; (with_reducible refine (aS_any _ hT0).mono ?_); rintro e w21 ⟨rfl, hb1⟩; dsimp only)
    have hT1 := hT0.below hb1
    have hB1 := hb1
    go_wp2_with (go_at_call 12; (with_reducible refine (HV.out _).mono ?_); rintro e w9 ⟨rfl, rfl⟩; dsimp only)
    go_wp2
    go_ret
    exact ⟨rfl, hB1⟩
  | true =>
    have HV := Lib.hid (plB_any s (by omega) _ hv)
    obtain ⟨hs1, has⟩ := plB_ok hv
    clear hv
    have hz1 := delS_size 95 ⟨#[]⟩ false s
    have hz2 := delS_size 45 ⟨#[]⟩ false s
    have hz3 := delS_size 95 ⟨#[]⟩ true s
    have cU : ∀ w, Calls Tryd.prog 15 #[.string (delS 95 ⟨#[]⟩ false s)] w fun e w' => e = .returned (.string (delS 95 ⟨#[]⟩ true s)) ∧ Below w.heap.size w w' := fun w => up_delS 95 rfl s ▸ upper_any (delS 95 ⟨#[]⟩ false s) w (by omega)
    have cV : ∀ w, Calls Tryd.prog 15 #[.string (delS 45 ⟨#[]⟩ false s)] w fun e w' => e = .returned (.string (delS 45 ⟨#[]⟩ true s)) ∧ Below w.heap.size w w' := fun w => up_delS 45 rfl s ▸ upper_any (delS 45 ⟨#[]⟩ false s) w (by omega)
    have cW : ∀ w, Calls Tryd.prog 17 #[.string (delS 95 ⟨#[]⟩ true s)] w fun e w' => e = .returned (.string (delS 95 ⟨#[]⟩ false s)) ∧ Below w.heap.size w w' := fun w => dn_delS 95 rfl s ▸ lower_any (delS 95 ⟨#[]⟩ true s) w (by omega)
    have cA : ∀ w, STab w → Calls Tryd.prog 14 #[.string s] w fun e w' => e = .returned (.string (delS 95 ⟨#[]⟩ true s)) ∧ Below w.heap.size w w' := fun w hT => iSSnake s w (by omega) hT
    have cB : ∀ w, STab w → Calls Tryd.prog 11 #[.string s] w fun e w' => e = .returned (.string (delS 95 ⟨#[]⟩ false s)) ∧ Below w.heap.size w w' := fun w hT => iSnake s w (by omega) hT
    have cC : ∀ w, STab w → Calls Tryd.prog 16 #[.string s] w fun e w' => e = .returned (.string (delS 45 ⟨#[]⟩ true s)) ∧ Below w.heap.size w w' := fun w hT => iSKebab s w (by omega) hT
    have cD : ∀ w, STab w → Calls Tryd.prog 13 #[.string s] w fun e w' => e = .returned (.string (delS 45 ⟨#[]⟩ false s)) ∧ Below w.heap.size w w' := fun w hT => iKebab s w (by omega) hT
    generalize delS 95 ⟨#[]⟩ true s = A at cU cV cW cA cB cC cD hz3
    generalize delS 95 ⟨#[]⟩ false s = B at cU cV cW cA cB cC cD hz1
    generalize delS 45 ⟨#[]⟩ true s = C at cU cV cW cA cB cC cD
    generalize delS 45 ⟨#[]⟩ false s = D at cU cV cW cA cB cC cD hz2
    have KU := Lib.hid cU
    have KV := Lib.hid cV
    have KW := Lib.hid cW
    have KA := Lib.hid cA
    have KB := Lib.hid cB
    have KC := Lib.hid cC
    have KD := Lib.hid cD
    clear cU cV cW cA cB cC cD has
    go_enter Tryd.func5, Tryd.ntmps5
    go_wp2_with (go_at_call 14; (with_reducible refine (aS_any _ hT0).mono ?_); rintro e w21 ⟨rfl, hb1⟩; dsimp only)
    have hT1 := hT0.below hb1
    have hB1 := hb1
    go_wp2_with (go_at_call 12; (with_reducible refine (HV.out _).mono ?_); rintro e w9 ⟨rfl, rfl⟩; dsimp only)
    go_wp2_with (go_at_call 14; (with_reducible refine (KA.out _ hT1).mono ?_); rintro e w22 ⟨rfl, hb2⟩; dsimp only)
    have hT2 := hT1.below hb2
    have hB2 := bthen hB1 hb2
    go_wp2_with (go_at_call 11; (with_reducible refine (KB.out _ hT2).mono ?_); rintro e w23 ⟨rfl, hb3⟩; dsimp only)
    have hT3 := hT2.below hb3
    have hB3 := bthen hB2 hb3
    go_wp2_with (go_at_call 15; (with_reducible refine (KU.out _).mono ?_); rintro e w24 ⟨rfl, hb4⟩; dsimp only)
    have hT4 := hT3.below hb4
    have hB4 := bthen hB3 hb4
    go_wp2_with (go_at_call 16; (with_reducible refine (KC.out _ hT4).mono ?_); rintro e w25 ⟨rfl, hb5⟩; dsimp only)
    have hT5 := hT4.below hb5
    have hB5 := bthen hB4 hb5
    go_wp2_with (go_at_call 13; (with_reducible refine (KD.out _ hT5).mono ?_); rintro e w26 ⟨rfl, hb6⟩; dsimp only)
    have hT6 := hT5.below hb6
    have hB6 := bthen hB5 hb6
    go_wp2_with (go_at_call 15; (with_reducible refine (KV.out _).mono ?_); rintro e w27 ⟨rfl, hb7⟩; dsimp only)
    have hT7 := hT6.below hb7
    have hB7 := bthen hB6 hb7
    go_wp2_with (go_at_call 14; (with_reducible refine (KA.out _ hT7).mono ?_); rintro e w28 ⟨rfl, hb8⟩; dsimp only)
    have hT8 := hT7.below hb8
    have hB8 := bthen hB7 hb8
    go_wp2_with (go_at_call 17; (with_reducible refine (KW.out _).mono ?_); rintro e w29 ⟨rfl, hb9⟩; dsimp only)
    have hT9 := hT8.below hb9
    have hB9 := bthen hB8 hb9
    go_wp2_with (go_at_call 11; (with_reducible refine (KB.out _ hT9).mono ?_); rintro e w30 ⟨rfl, hb10⟩; dsimp only)
    have hT10 := hT9.below hb10
    have hB10 := bthen hB9 hb10
    go_wp2
    go_ret
    exact ⟨rfl, hB10⟩
end Go.Proofs.YtpbehdlgmpmkaaaDoor
