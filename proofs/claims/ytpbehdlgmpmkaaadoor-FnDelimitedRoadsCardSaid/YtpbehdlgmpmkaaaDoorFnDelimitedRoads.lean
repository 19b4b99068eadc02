/- The walk of the law FnDelimitedRoads. -/
import Derived.Test.YtpbehdlgmpmkaaaDoorCaseImpl
set_option linter.unusedVariables false
namespace Go.Proofs.YtpbehdlgmpmkaaaDoor
open Go.RowKit Plain

theorem aK_eq : delS 45 ⟨#[]⟩ false ⟨#[97, 66]⟩ = ⟨#[97, 45, 98]⟩ := by decide +kernel
theorem aK_any (w : World) (hT : STab w) : Calls Tryd.prog 13 #[.string ⟨#[97, 66]⟩] w fun e w' => e = .returned (.string ⟨#[97, 45, 98]⟩) ∧ Below w.heap.size w w' := by
  have := iKebab ⟨#[97, 66]⟩ w (by decide) hT
  rwa [aK_eq] at this

set_option maxHeartbeats 4000000 in
set_option maxRecDepth 100000 in
theorem fnDelimitedRoads_walk (s : ByteArray) (w : World) (hs0 : s.size ≤ 140737488351232) (hT0 : STab w) :
    Calls Tryd.prog 6 #[.string s] w fun e w' => e = .returned (.bool true) ∧ Below w.heap.size w w' := by
  by_cases hb : 2147483647 < s.size
  · have hbz : (2147483647 : Int) < (s.size : Int) := by omega
    go_enter Tryd.func6, Tryd.ntmps6
    go_wp2
    go_ret
    exact ⟨rfl, Below.refl _ _⟩
  have hbz : ¬ (2147483647 : Int) < (s.size : Int) := by omega
  cases hv : plB s with
  | false =>
    have HV := Lib.hid (plB_any s (by omega) _ hv)
    clear hv
    go_enter Tryd.func6, Tryd.ntmps6
    go_wp2_with (go_at_call 13; (with_reducible refine (aK_any _ hT0).mono ?_); rintro e w21 ⟨rfl, hb1⟩; dsimp only)
    have hT1 := hT0.below hb1
    have hB1 := hb1
    go_wp2_with (go_at_call 12; (with_reducible refine (HV.out _).mono ?_); rintro e w9 ⟨rfl, rfl⟩; dsimp only)
    go_wp2
    go_ret
    exact ⟨rfl, hB1⟩
  | true =>
    have HV := Lib.hid (plB_any s (by omega) _ hv)
    obtain ⟨hs1, has⟩ := plB_ok hv
    clear hv
    have cA : ∀ w, STab w → Calls Tryd.prog 11 #[.string s] w fun e w' => e = .returned (.string (delS 95 ⟨#[]⟩ false s)) ∧ Below w.heap.size w w' := fun w hT => iSnake s w (by omega) hT
    have cB : ∀ w, STab w → Calls Tryd.prog 18 #[.string s, .int .u8 95] w fun e w' => e = .returned (.string (delS 95 ⟨#[]⟩ false s)) ∧ Below w.heap.size w w' := fun w hT => iDelim s 95 95 rfl w (by omega) hT
    have cC : ∀ w, STab w → Calls Tryd.prog 13 #[.string s] w fun e w' => e = .returned (.string (delS 45 ⟨#[]⟩ false s)) ∧ Below w.heap.size w w' := fun w hT => iKebab s w (by omega) hT
    have cD : ∀ w, STab w → Calls Tryd.prog 18 #[.string s, .int .u8 45] w fun e w' => e = .returned (.string (delS 45 ⟨#[]⟩ false s)) ∧ Below w.heap.size w w' := fun w hT => iDelim s 45 45 rfl w (by omega) hT
    have cE : ∀ w, STab w → Calls Tryd.prog 7 #[.string s, .int .u8 95, .string ⟨#[]⟩, .bool false] w fun e w' => e = .returned (.string (delS 95 ⟨#[]⟩ false s)) ∧ Below w.heap.size w w' := fun w hT => iTSD s ⟨#[]⟩ 95 95 rfl false w (by omega) (by decide) hT
    have cF : ∀ w, STab w → Calls Tryd.prog 14 #[.string s] w fun e w' => e = .returned (.string (delS 95 ⟨#[]⟩ true s)) ∧ Below w.heap.size w w' := fun w hT => iSSnake s w (by omega) hT
    have cG : ∀ w, STab w → Calls Tryd.prog 7 #[.string s, .int .u8 95, .string ⟨#[]⟩, .bool true] w fun e w' => e = .returned (.string (delS 95 ⟨#[]⟩ true s)) ∧ Below w.heap.size w w' := fun w hT => iTSD s ⟨#[]⟩ 95 95 rfl true w (by omega) (by decide) hT
    have cH : ∀ w, STab w → Calls Tryd.prog 16 #[.string s] w fun e w' => e = .returned (.string (delS 45 ⟨#[]⟩ true s)) ∧ Below w.heap.size w w' := fun w hT => iSKebab s w (by omega) hT
    have cI : ∀ w, STab w → Calls Tryd.prog 7 #[.string s, .int .u8 45, .string ⟨#[]⟩, .bool true] w fun e w' => e = .returned (.string (delS 45 ⟨#[]⟩ true s)) ∧ Below w.heap.size w w' := fun w hT => iTSD s ⟨#[]⟩ 45 45 rfl true w (by omega) (by decide) hT
    have cJ : ∀ w, STab w → Calls Tryd.prog 19 #[.string s, .string ⟨#[]⟩] w fun e w' => e = .returned (.string (delS 95 ⟨#[]⟩ false s)) ∧ Below w.heap.size w w' := fun w hT => iIgn s ⟨#[]⟩ w (by omega) (by decide) hT
    generalize delS 95 ⟨#[]⟩ false s = B at cA cB cC cD cE cF cG cH cI cJ
    generalize delS 45 ⟨#[]⟩ false s = D at cA cB cC cD cE cF cG cH cI cJ
    generalize delS 95 ⟨#[]⟩ true s = A at cA cB cC cD cE cF cG cH cI cJ
    generalize delS 45 ⟨#[]⟩ true s = C at cA cB cC cD cE cF cG cH cI cJ
    have KA := Lib.hid cA
    have KB := Lib.hid cB
    have KC := Lib.hid cC
    have KD := Lib.hid cD
    have KE := Lib.hid cE
    have KF := Lib.hid cF
    have KG := Lib.hid cG
    have KH := Lib.hid cH
    have KI := Lib.hid cI
    have KJ := Lib.hid cJ
    clear cA cB cC cD cE cF cG cH cI cJ has
    go_enter Tryd.func6, Tryd.ntmps6
    go_wp2_with (go_at_call 13; (with_reducible refine (aK_any _ hT0).mono ?_); rintro e w21 ⟨rfl, hb1⟩; dsimp only)
    have hT1 := hT0.below hb1
    have hB1 := hb1
    go_wp2_with (go_at_call 12; (with_reducible refine (HV.out _).mono ?_); rintro e w9 ⟨rfl, rfl⟩; dsimp only)
    go_wp2_with (go_at_call 11; (with_reducible refine (KA.out _ hT1).mono ?_); rintro e w22 ⟨rfl, hb2⟩; dsimp only)
    have hT2 := hT1.below hb2
    have hB2 := bthen hB1 hb2
    go_wp2_with (go_at_call 18; (with_reducible refine (KB.out _ hT2).mono ?_); rintro e w23 ⟨rfl, hb3⟩; dsimp only)
    have hT3 := hT2.below hb3
    have hB3 := bthen hB2 hb3
    go_wp2_with (go_at_call 13; (with_reducible refine (KC.out _ hT3).mono ?_); rintro e w24 ⟨rfl, hb4⟩; dsimp only)
    have hT4 := hT3.below hb4
    have hB4 := bthen hB3 hb4
    go_wp2_with (go_at_call 18; (with_reducible refine (KD.out _ hT4).mono ?_); rintro e w25 ⟨rfl, hb5⟩; dsimp only)
    have hT5 := hT4.below hb5
    have hB5 := bthen hB4 hb5
    go_wp2_with (go_at_call 11; (with_reducible refine (KA.out _ hT5).mono ?_); rintro e w26 ⟨rfl, hb6⟩; dsimp only)
    have hT6 := hT5.below hb6
    have hB6 := bthen hB5 hb6
    go_wp2_with (go_at_call 7; (with_reducible refine (KE.out _ hT6).mono ?_); rintro e w27 ⟨rfl, hb7⟩; dsimp only)
    have hT7 := hT6.below hb7
    have hB7 := bthen hB6 hb7
    go_wp2_with (go_at_call 14; (with_reducible refine (KF.out _ hT7).mono ?_); rintro e w28 ⟨rfl, hb8⟩; dsimp only)
    have hT8 := hT7.below hb8
    have hB8 := bthen hB7 hb8
    go_wp2_with (go_at_call 7; (with_reducible refine (KG.out _ hT8).mono ?_); rintro e w29 ⟨rfl, hb9⟩; dsimp only)
    have hT9 := hT8.below hb9
    have hB9 := bthen hB8 hb9
    go_wp2_with (go_at_call 16; (with_reducible refine (KH.out _ hT9).mono ?_); rintro e w30 ⟨rfl, hb10⟩; dsimp only)
    have hT10 := hT9.below hb10
    have hB10 := bthen hB9 hb10
    go_wp2_with (go_at_call 7; (with_reducible refine (KI.out _ hT10).mono ?_); rintro e w31 ⟨rfl, hb11⟩; dsimp only)
    have hT11 := hT10.below hb11
    have hB11 := bthen hB10 hb11
    go_wp2_with (go_at_call 19; (with_reducible refine (KJ.out _ hT11).mono ?_); rintro e w32 ⟨rfl, hb12⟩; dsimp only)
    have hT12 := hT11.below hb12
    have hB12 := bthen hB11 hb12
    go_wp2_with (go_at_call 11; (with_reducible refine (KA.out _ hT12).mono ?_); rintro e w33 ⟨rfl, hb13⟩; dsimp only)
    have hT13 := hT12.below hb13
    have hB13 := bthen hB12 hb13
    go_wp2
    go_ret
    exact ⟨rfl, hB13⟩
end Go.Proofs.YtpbehdlgmpmkaaaDoor
