-- PRINTED BY print.sh 35421559b90ae4d0a3588c463048766b98c2df88dd9212a6774a882060cdf62d: not written by this session
import Derived.Test.YtpbehdlgmpmkaaaDoorPFnDelimitedSaysx0
import Derived.Test.YtpbehdlgmpmkaaaDoorPFnDelimitedSaysx1
namespace Go.Proofs.YtpbehdlgmpmkaaaDoor.PFnDelimitedSays
open Go.RowKit Go.Proofs.YtpbehdlgmpmkaaaDoorW.PrintWords Go.Proofs.YtpbehdlgmpmkaaaDoorW.PrintLast Go.Proofs.YtpbehdlgmpmkaaaDoorW.PrintMore
attribute [local go_sem] max2_int min2_int max_two min_two max_three min_three max_four min_four   -- for this text's walks alone
set_option linter.unusedVariables false
set_option linter.unusedSimpArgs false

/-! ### spec_digit: function 41 -/
def spec_digit.f (a0 : Int) : Option (Bool) := if a0 ≥ 48 then (some (decide (a0 ≤ 57))) else (some false)
set_option maxHeartbeats 8000000 in
set_option maxRecDepth 100000 in
theorem spec_digit.calls (a0 : Int) (r : Bool) (w : World) (h : spec_digit.f a0 = some r) :
    Calls Tryd.prog 41 #[.int .u8 a0] w fun e w' => e = .returned (.bool r) ∧ Drawn0 w w' := by
  have H : (if a0 ≥ 48 then (some (decide (a0 ≤ 57))) else (some false)) = some r := h
  clear h
  by_cases c2 : a0 ≥ 48
  · rw [if_pos c2] at H
    have c2b0 : decide (48 ≤ a0) = true := decide_eq_true c2
    clear c2
    obtain rfl := Option.some.inj H
    go_enter Tryd.func41, Tryd.ntmps41
    go_wp2
    go_ret
    exact ⟨by first | rfl | (simp; done) | (simp [*]; done), by repeat (first | exact Drawn0.refl _ | apply Drawn0.step)⟩
  · rw [if_neg c2] at H
    have c2b0 : decide (48 ≤ a0) = false := decide_eq_false c2
    clear c2
    obtain rfl := Option.some.inj H
    go_enter Tryd.func41, Tryd.ntmps41
    go_wp2
    go_ret
    exact ⟨by first | rfl | (simp; done) | (simp [*]; done), by repeat (first | exact Drawn0.refl _ | apply Drawn0.step)⟩

/-! ### spec_borders: function 25 -/
mutual
def spec_borders.j0 : Nat → ByteArray → Int → Int → Int → Bool → Option (Bool)
  | 0, _, _, _, _, _ => none
  | k + 1, x0, x1, x5, x6, x16 => if x16 = true then (spec_borders.j2 k x0 x1 x5 x6 x16) else ((spec_upper.f x5).bind fun t110 => (if t110 = true then ((spec_digit.f x6).bind fun t111 => (spec_borders.j1 k x0 x1 x5 x6 t111)) else (spec_borders.j1 k x0 x1 x5 x6 false)))
def spec_borders.j2 : Nat → ByteArray → Int → Int → Int → Bool → Option (Bool)
  | 0, _, _, _, _, _ => none
  | k + 1, x0, x1, x5, x6, x16 => if x16 = true then (some true) else ((spec_upper.f x5).bind fun t115 => (if t115 = true then ((spec_upper.f x6).bind fun t116 => (if t116 = true then (if (wrap64 (x1 + 1)) < (x0.size : Int) then (if 0 ≤ (wrap64 (x1 + 1)) then ((spec_lower.f (bt x0 (wrap64 (x1 + 1)))).bind fun t117 => (some t117)) else (none)) else (some false)) else (some false))) else (some false)))
def spec_borders.j1 : Nat → ByteArray → Int → Int → Int → Bool → Option (Bool)
  | 0, _, _, _, _, _ => none
  | k + 1, x0, x1, x5, x6, x16 => if x16 = true then (spec_borders.j2 k x0 x1 x5 x6 x16) else ((spec_digit.f x5).bind fun t112 => (if t112 = true then ((spec_upper.f x6).bind fun t113 => (if t113 = true then (spec_borders.j2 k x0 x1 x5 x6 true) else ((spec_lower.f x6).bind fun t114 => (spec_borders.j2 k x0 x1 x5 x6 t114)))) else (spec_borders.j2 k x0 x1 x5 x6 false)))
end
def spec_borders.f (k : Nat) (a0 : ByteArray) (a1 : Int) : Option (Bool) := if a1 < 1 then (some false) else (if 0 ≤ (wrap64 (a1 - 1)) then (if (wrap64 (a1 - 1)) < (a0.size : Int) then (if 0 ≤ a1 then (if a1 < (a0.size : Int) then ((spec_lower.f (bt a0 (wrap64 (a1 - 1)))).bind fun t107 => (if t107 = true then ((spec_upper.f (bt a0 a1)).bind fun t108 => (if t108 = true then (spec_borders.j0 k a0 a1 (bt a0 (wrap64 (a1 - 1))) (bt a0 a1) true) else ((spec_digit.f (bt a0 a1)).bind fun t109 => (spec_borders.j0 k a0 a1 (bt a0 (wrap64 (a1 - 1))) (bt a0 a1) t109)))) else (spec_borders.j0 k a0 a1 (bt a0 (wrap64 (a1 - 1))) (bt a0 a1) false))) else (none)) else (none)) else (none)) else (none))
theorem spec_borders.mono_l : ∀ k, (∀ y0 y1 y2 y3 y4, LeO (spec_borders.j0 k y0 y1 y2 y3 y4) (spec_borders.j0 (k + 1) y0 y1 y2 y3 y4)) ∧ (∀ y0 y1 y2 y3 y4, LeO (spec_borders.j2 k y0 y1 y2 y3 y4) (spec_borders.j2 (k + 1) y0 y1 y2 y3 y4)) ∧ (∀ y0 y1 y2 y3 y4, LeO (spec_borders.j1 k y0 y1 y2 y3 y4) (spec_borders.j1 (k + 1) y0 y1 y2 y3 y4))
  | 0 => ⟨fun _ _ _ _ _ r h => by simp [spec_borders.j0] at h, fun _ _ _ _ _ r h => by simp [spec_borders.j2] at h, fun _ _ _ _ _ r h => by simp [spec_borders.j1] at h⟩
  | k + 1 => by
    obtain ⟨ih0, ih1, ih2⟩ := spec_borders.mono_l k
    refine ⟨?_, ?_, ?_⟩
    · intro y0 y1 y2 y3 y4
      unfold spec_borders.j0
      repeat' first
      | (with_reducible exact ih0 _ _ _ _ _)
      | (with_reducible exact ih1 _ _ _ _ _)
      | (with_reducible exact ih2 _ _ _ _ _)
      | (with_reducible exact LeO.refl _)
      | (with_reducible exact LeO.none _)
      | (with_reducible refine LeO.ite ?_ ?_)
      | (with_reducible refine LeO.bind ?_ (fun _ => ?_))
      | exact ih0 _ _ _ _ _
      | exact ih1 _ _ _ _ _
      | exact ih2 _ _ _ _ _
      | exact LeO.none _
      | refine LeO.ite ?_ ?_
      | refine LeO.bind ?_ (fun _ => ?_)
    · intro y0 y1 y2 y3 y4
      unfold spec_borders.j2
      repeat' first
      | (with_reducible exact ih0 _ _ _ _ _)
      | (with_reducible exact ih1 _ _ _ _ _)
      | (with_reducible exact ih2 _ _ _ _ _)
      | (with_reducible exact LeO.refl _)
      | (with_reducible exact LeO.none _)
      | (with_reducible refine LeO.ite ?_ ?_)
      | (with_reducible refine LeO.bind ?_ (fun _ => ?_))
      | exact ih0 _ _ _ _ _
      | exact ih1 _ _ _ _ _
      | exact ih2 _ _ _ _ _
      | exact LeO.none _
      | refine LeO.ite ?_ ?_
      | refine LeO.bind ?_ (fun _ => ?_)
    · intro y0 y1 y2 y3 y4
      unfold spec_borders.j1
      repeat' first
      | (with_reducible exact ih0 _ _ _ _ _)
      | (with_reducible exact ih1 _ _ _ _ _)
      | (with_reducible exact ih2 _ _ _ _ _)
      | (with_reducible exact LeO.refl _)
      | (with_reducible exact LeO.none _)
      | (with_reducible refine LeO.ite ?_ ?_)
      | (with_reducible refine LeO.bind ?_ (fun _ => ?_))
      | exact ih0 _ _ _ _ _
      | exact ih1 _ _ _ _ _
      | exact ih2 _ _ _ _ _
      | exact LeO.none _
      | refine LeO.ite ?_ ?_
      | refine LeO.bind ?_ (fun _ => ?_)
theorem spec_borders.mono : ∀ a0 a1 k, LeO (spec_borders.f k a0 a1) (spec_borders.f (k + 1) a0 a1) := by
  intro a0 a1 k
  obtain ⟨ih0, ih1, ih2⟩ := spec_borders.mono_l k
  unfold spec_borders.f
  repeat' first
      | (with_reducible exact ih0 _ _ _ _ _)
      | (with_reducible exact ih1 _ _ _ _ _)
      | (with_reducible exact ih2 _ _ _ _ _)
      | (with_reducible exact LeO.refl _)
      | (with_reducible exact LeO.none _)
      | (with_reducible refine LeO.ite ?_ ?_)
      | (with_reducible refine LeO.bind ?_ (fun _ => ?_))
      | exact ih0 _ _ _ _ _
      | exact ih1 _ _ _ _ _
      | exact ih2 _ _ _ _ _
      | exact LeO.none _
      | refine LeO.ite ?_ ?_
      | refine LeO.bind ?_ (fun _ => ?_)
set_option maxHeartbeats 8000000 in
set_option maxRecDepth 100000 in
theorem spec_borders.calls (k : Nat) (a0 : ByteArray) (a1 : Int) (r : Bool) (w : World) (h : spec_borders.f k a0 a1 = some r) :
    Calls Tryd.prog 25 #[.string a0, .int .i64 a1] w fun e w' => e = .returned (.bool r) ∧ Drawn0 w w' := by
  have H : (if a1 < 1 then (some false) else (if 0 ≤ (wrap64 (a1 - 1)) then (if (wrap64 (a1 - 1)) < (a0.size : Int) then (if 0 ≤ a1 then (if a1 < (a0.size : Int) then ((spec_lower.f (bt a0 (wrap64 (a1 - 1)))).bind fun t107 => (if t107 = true then ((spec_upper.f (bt a0 a1)).bind fun t108 => (if t108 = true then (spec_borders.j0 k a0 a1 (bt a0 (wrap64 (a1 - 1))) (bt a0 a1) true) else ((spec_digit.f (bt a0 a1)).bind fun t109 => (spec_borders.j0 k a0 a1 (bt a0 (wrap64 (a1 - 1))) (bt a0 a1) t109)))) else (spec_borders.j0 k a0 a1 (bt a0 (wrap64 (a1 - 1))) (bt a0 a1) false))) else (none)) else (none)) else (none)) else (none))) = some r := h
  clear h
  by_cases c3 : a1 < 1
  · rw [if_pos c3] at H
    have c3b0 : decide (a1 < 1) = true := decide_eq_true c3
    clear c3
    obtain rfl := Option.some.inj H
    go_enter Tryd.func25, Tryd.ntmps25
    go_wp2
    repeat (go_quiet (fail); try go_wp2)
    go_ret
    exact ⟨by first | rfl | (simp; done) | (simp [*]; done), by repeat (first | exact Drawn0.refl _ | apply Drawn0.step)⟩
  · rw [if_neg c3] at H
    have c3b0 : decide (a1 < 1) = false := decide_eq_false c3
    clear c3
    obtain ⟨ji4, hji4⟩ : ∃ j_ : Int, (wrap64 (a1 - 1)) = j_ := ⟨_, rfl⟩
    replace H : (if 0 ≤ (ji4) then (if (ji4) < (a0.size : Int) then (if 0 ≤ a1 then (if a1 < (a0.size : Int) then ((spec_lower.f (bt a0 (ji4))).bind fun t107 => (if t107 = true then ((spec_upper.f (bt a0 a1)).bind fun t108 => (if t108 = true then (spec_borders.j0 k a0 a1 (bt a0 (ji4)) (bt a0 a1) true) else ((spec_digit.f (bt a0 a1)).bind fun t109 => (spec_borders.j0 k a0 a1 (bt a0 (ji4)) (bt a0 a1) t109)))) else (spec_borders.j0 k a0 a1 (bt a0 (ji4)) (bt a0 a1) false))) else (none)) else (none)) else (none)) else (none)) = some r := by first | (rw [hji4] at H; exact H) | (simp only [hji4] at H ⊢; exact H)
    have hji4w : (IntKind.i64.wrap (a1 - 1)) = ji4 := (i64_w _).trans hji4
    by_cases c5 : 0 ≤ (ji4)
    · rw [if_pos c5] at H
      have c5b0 : decide (0 ≤ (ji4)) = true := decide_eq_true c5
      clear c5
      by_cases c6 : (ji4) < (a0.size : Int)
      · rw [if_pos c6] at H
        have c6b0 : decide ((ji4) < (a0.size : Int)) = true := decide_eq_true c6
        clear c6
        by_cases c8 : 0 ≤ a1
        · rw [if_pos c8] at H
          have c8b0 : decide (0 ≤ a1) = true := decide_eq_true c8
          clear c8
          by_cases c9 : a1 < (a0.size : Int)
          · rw [if_pos c9] at H
            have c9b0 : decide (a1 < (a0.size : Int)) = true := decide_eq_true c9
            clear c9
            have HC11 := Aside0.mk H
            clear H
            have p7 : 0 ≤ ((ji4) : Int) := of_decide_eq_true (by first | (with_reducible assumption) | assumption)
            have q7 : (ji4) < (a0.size : Int) := of_decide_eq_true (by first | (with_reducible assumption) | assumption)
            have hx7 := bt_at a0 (ji4)
            replace p7 := eq_true p7
            replace q7 := eq_true q7
            have p10 : 0 ≤ (a1 : Int) := of_decide_eq_true (by first | (with_reducible assumption) | assumption)
            have q10 : a1 < (a0.size : Int) := of_decide_eq_true (by first | (with_reducible assumption) | assumption)
            have hx10 := bt_at a0 a1
            replace p10 := eq_true p10
            replace q10 := eq_true q10
            go_enter Tryd.func25, Tryd.ntmps25
            go_upto_region 4 with (fail)
            repeat (go_quiet (fail); go_upto_region 4 with (fail))
            go_cut [16] (fun v16 wc => ∃ (kq : Nat) (x16_10 : Bool), v16 = .bool x16_10 ∧ Aside0 (spec_borders.j0 kq a0 a1 (bt a0 (ji4)) (bt a0 a1) x16_10 = some r) ∧ Aside0 (kq ≤ k) ∧ Drawn0 w wc)
            case first =>
              have H := HC11.out
              clear HC11
              replace H := Option.bind_eq_some_iff.mp H
              obtain ⟨t107, A120, H⟩ := H
              replace H : (if t107 = true then ((spec_upper.f (bt a0 a1)).bind fun t108 => (if t108 = true then (spec_borders.j0 k a0 a1 (bt a0 (ji4)) (bt a0 a1) true) else ((spec_digit.f (bt a0 a1)).bind fun t109 => (spec_borders.j0 k a0 a1 (bt a0 (ji4)) (bt a0 a1) t109)))) else (spec_borders.j0 k a0 a1 (bt a0 (ji4)) (bt a0 a1) false)) = some r := H
              have A12 := Aside0.mk A120
              clear A120
              by_cases c13 : t107 = true
              · subst c13
                have H1 : ((spec_upper.f (bt a0 a1)).bind fun t108 => (if t108 = true then (spec_borders.j0 k a0 a1 (bt a0 (ji4)) (bt a0 a1) true) else ((spec_digit.f (bt a0 a1)).bind fun t109 => (spec_borders.j0 k a0 a1 (bt a0 (ji4)) (bt a0 a1) t109)))) = some r := by rw [if_pos rfl] at H; exact H
                clear H
                have H := H1
                clear H1
                replace H := Option.bind_eq_some_iff.mp H
                obtain ⟨t108, A140, H⟩ := H
                replace H : (if t108 = true then (spec_borders.j0 k a0 a1 (bt a0 (ji4)) (bt a0 a1) true) else ((spec_digit.f (bt a0 a1)).bind fun t109 => (spec_borders.j0 k a0 a1 (bt a0 (ji4)) (bt a0 a1) t109))) = some r := H
                have A14 := Aside0.mk A140
                clear A140
                by_cases c15 : t108 = true
                · subst c15
                  have H1 : (spec_borders.j0 k a0 a1 (bt a0 (ji4)) (bt a0 a1) true) = some r := by rw [if_pos rfl] at H; exact H
                  clear H
                  have H := H1
                  clear H1
                  have H' := Aside0.mk H
                  clear H
                  go_wp2_with (first | (go_at_call 23; (with_reducible refine (spec_lower.calls (bt a0 (ji4)) true _ A12.out).mono ?_); rintro e w' ⟨rfl, ⟨nd, rfl⟩⟩; (try first | exact ⟨rfl, _, World.drewN_drewN _ _ _⟩ | exact ⟨rfl, _, Eq.trans (World.drewN_drewN _ _ _) (congrArg (World.drewN _) (Nat.add_assoc _ _ _))⟩)) | (go_at_call 27; (with_reducible refine (spec_upper.calls (bt a0 a1) true _ A14.out).mono ?_); rintro e w' ⟨rfl, ⟨nd, rfl⟩⟩; (try first | exact ⟨rfl, _, World.drewN_drewN _ _ _⟩ | exact ⟨rfl, _, Eq.trans (World.drewN_drewN _ _ _) (congrArg (World.drewN _) (Nat.add_assoc _ _ _))⟩)))
                  repeat (go_quiet (first | (go_at_call 23; (with_reducible refine (spec_lower.calls (bt a0 (ji4)) true _ A12.out).mono ?_); rintro e w' ⟨rfl, ⟨nd, rfl⟩⟩; (try first | exact ⟨rfl, _, World.drewN_drewN _ _ _⟩ | exact ⟨rfl, _, Eq.trans (World.drewN_drewN _ _ _) (congrArg (World.drewN _) (Nat.add_assoc _ _ _))⟩)) | (go_at_call 27; (with_reducible refine (spec_upper.calls (bt a0 a1) true _ A14.out).mono ?_); rintro e w' ⟨rfl, ⟨nd, rfl⟩⟩; (try first | exact ⟨rfl, _, World.drewN_drewN _ _ _⟩ | exact ⟨rfl, _, Eq.trans (World.drewN_drewN _ _ _) (congrArg (World.drewN _) (Nat.add_assoc _ _ _))⟩))); try go_wp2_with (first | (go_at_call 23; (with_reducible refine (spec_lower.calls (bt a0 (ji4)) true _ A12.out).mono ?_); rintro e w' ⟨rfl, ⟨nd, rfl⟩⟩; (try first | exact ⟨rfl, _, World.drewN_drewN _ _ _⟩ | exact ⟨rfl, _, Eq.trans (World.drewN_drewN _ _ _) (congrArg (World.drewN _) (Nat.add_assoc _ _ _))⟩)) | (go_at_call 27; (with_reducible refine (spec_upper.calls (bt a0 a1) true _ A14.out).mono ?_); rintro e w' ⟨rfl, ⟨nd, rfl⟩⟩; (try first | exact ⟨rfl, _, World.drewN_drewN _ _ _⟩ | exact ⟨rfl, _, Eq.trans (World.drewN_drewN _ _ _) (congrArg (World.drewN _) (Nat.add_assoc _ _ _))⟩))))
                  go_meet
                  case rel => exact ⟨_, (true), (by first | rfl | (simp; done) | (simp [*]; done)), H', ⟨by first | omega | exact Nat.le_refl _⟩, by repeat (first | exact Drawn0.refl _ | apply Drawn0.step)⟩
                · replace c15 := Bool.eq_false_iff.mpr c15
                  subst c15
                  have H1 : ((spec_digit.f (bt a0 a1)).bind fun t109 => (spec_borders.j0 k a0 a1 (bt a0 (ji4)) (bt a0 a1) t109)) = some r := by rw [if_neg (show ¬ (false = true) by decide)] at H; exact H
                  clear H
                  have H := H1
                  clear H1
                  replace H := Option.bind_eq_some_iff.mp H
                  obtain ⟨t109, A160, H⟩ := H
                  replace H : (spec_borders.j0 k a0 a1 (bt a0 (ji4)) (bt a0 a1) t109) = some r := H
                  have A16 := Aside0.mk A160
                  clear A160
                  have H' := Aside0.mk H
                  clear H
                  go_wp2_with (first | (go_at_call 23; (with_reducible refine (spec_lower.calls (bt a0 (ji4)) true _ A12.out).mono ?_); rintro e w' ⟨rfl, ⟨nd, rfl⟩⟩; (try first | exact ⟨rfl, _, World.drewN_drewN _ _ _⟩ | exact ⟨rfl, _, Eq.trans (World.drewN_drewN _ _ _) (congrArg (World.drewN _) (Nat.add_assoc _ _ _))⟩)) | (go_at_call 27; (with_reducible refine (spec_upper.calls (bt a0 a1) false _ A14.out).mono ?_); rintro e w' ⟨rfl, ⟨nd, rfl⟩⟩; (try first | exact ⟨rfl, _, World.drewN_drewN _ _ _⟩ | exact ⟨rfl, _, Eq.trans (World.drewN_drewN _ _ _) (congrArg (World.drewN _) (Nat.add_assoc _ _ _))⟩)) | (go_at_call 41; (with_reducible refine (spec_digit.calls (bt a0 a1) t109 _ A16.out).mono ?_); rintro e w' ⟨rfl, ⟨nd, rfl⟩⟩; (try first | exact ⟨rfl, _, World.drewN_drewN _ _ _⟩ | exact ⟨rfl, _, Eq.trans (World.drewN_drewN _ _ _) (congrArg (World.drewN _) (Nat.add_assoc _ _ _))⟩)))
                  repeat (go_quiet (first | (go_at_call 23; (with_reducible refine (spec_lower.calls (bt a0 (ji4)) true _ A12.out).mono ?_); rintro e w' ⟨rfl, ⟨nd, rfl⟩⟩; (try first | exact ⟨rfl, _, World.drewN_drewN _ _ _⟩ | exact ⟨rfl, _, Eq.trans (World.drewN_drewN _ _ _) (congrArg (World.drewN _) (Nat.add_assoc _ _ _))⟩)) | (go_at_call 27; (with_reducible refine (spec_upper.calls (bt a0 a1) false _ A14.out).mono ?_); rintro e w' ⟨rfl, ⟨nd, rfl⟩⟩; (try first | exact ⟨rfl, _, World.drewN_drewN _ _ _⟩ | exact ⟨rfl, _, Eq.trans (World.drewN_drewN _ _ _) (congrArg (World.drewN _) (Nat.add_assoc _ _ _))⟩)) | (go_at_call 41; (with_reducible refine (spec_digit.calls (bt a0 a1) t109 _ A16.out).mono ?_); rintro e w' ⟨rfl, ⟨nd, rfl⟩⟩; (try first | exact ⟨rfl, _, World.drewN_drewN _ _ _⟩ | exact ⟨rfl, _, Eq.trans (World.drewN_drewN _ _ _) (congrArg (World.drewN _) (Nat.add_assoc _ _ _))⟩))); try go_wp2_with (first | (go_at_call 23; (with_reducible refine (spec_lower.calls (bt a0 (ji4)) true _ A12.out).mono ?_); rintro e w' ⟨rfl, ⟨nd, rfl⟩⟩; (try first | exact ⟨rfl, _, World.drewN_drewN _ _ _⟩ | exact ⟨rfl, _, Eq.trans (World.drewN_drewN _ _ _) (congrArg (World.drewN _) (Nat.add_assoc _ _ _))⟩)) | (go_at_call 27; (with_reducible refine (spec_upper.calls (bt a0 a1) false _ A14.out).mono ?_); rintro e w' ⟨rfl, ⟨nd, rfl⟩⟩; (try first | exact ⟨rfl, _, World.drewN_drewN _ _ _⟩ | exact ⟨rfl, _, Eq.trans (World.drewN_drewN _ _ _) (congrArg (World.drewN _) (Nat.add_assoc _ _ _))⟩)) | (go_at_call 41; (with_reducible refine (spec_digit.calls (bt a0 a1) t109 _ A16.out).mono ?_); rintro e w' ⟨rfl, ⟨nd, rfl⟩⟩; (try first | exact ⟨rfl, _, World.drewN_drewN _ _ _⟩ | exact ⟨rfl, _, Eq.trans (World.drewN_drewN _ _ _) (congrArg (World.drewN _) (Nat.add_assoc _ _ _))⟩))))
                  go_meet
                  case rel => exact ⟨_, (t109), (by first | rfl | (simp; done) | (simp [*]; done)), H', ⟨by first | omega | exact Nat.le_refl _⟩, by repeat (first | exact Drawn0.refl _ | apply Drawn0.step)⟩
              · replace c13 := Bool.eq_false_iff.mpr c13
                subst c13
                have H1 : (spec_borders.j0 k a0 a1 (bt a0 (ji4)) (bt a0 a1) false) = some r := by rw [if_neg (show ¬ (false = true) by decide)] at H; exact H
                clear H
                have H := H1
                clear H1
                have H' := Aside0.mk H
                clear H
                go_wp2_with (first | (go_at_call 23; (with_reducible refine (spec_lower.calls (bt a0 (ji4)) false _ A12.out).mono ?_); rintro e w' ⟨rfl, ⟨nd, rfl⟩⟩; (try first | exact ⟨rfl, _, World.drewN_drewN _ _ _⟩ | exact ⟨rfl, _, Eq.trans (World.drewN_drewN _ _ _) (congrArg (World.drewN _) (Nat.add_assoc _ _ _))⟩)))
                repeat (go_quiet (first | (go_at_call 23; (with_reducible refine (spec_lower.calls (bt a0 (ji4)) false _ A12.out).mono ?_); rintro e w' ⟨rfl, ⟨nd, rfl⟩⟩; (try first | exact ⟨rfl, _, World.drewN_drewN _ _ _⟩ | exact ⟨rfl, _, Eq.trans (World.drewN_drewN _ _ _) (congrArg (World.drewN _) (Nat.add_assoc _ _ _))⟩))); try go_wp2_with (first | (go_at_call 23; (with_reducible refine (spec_lower.calls (bt a0 (ji4)) false _ A12.out).mono ?_); rintro e w' ⟨rfl, ⟨nd, rfl⟩⟩; (try first | exact ⟨rfl, _, World.drewN_drewN _ _ _⟩ | exact ⟨rfl, _, Eq.trans (World.drewN_drewN _ _ _) (congrArg (World.drewN _) (Nat.add_assoc _ _ _))⟩))))
                go_meet
                case rel => exact ⟨_, (false), (by first | rfl | (simp; done) | (simp [*]; done)), H', ⟨by first | omega | exact Nat.le_refl _⟩, by repeat (first | exact Drawn0.refl _ | apply Drawn0.step)⟩
            case rest =>
              clear HC11
              try clear c1
              try clear p1
              try clear q1
              try clear hx1
              try clear c2
              try clear p2
              try clear c3
              try clear c3b0
              try clear c5
              try clear c5b0
              try clear c6
              try clear c6b0
              try clear p6
              try clear p7
              try clear q7
              try clear hx7
              try clear c8
              try clear c8b0
              try clear c9
              try clear c9b0
              try clear p10
              try clear q10
              try clear hx10
              try clear c13
              try clear c15
              try clear p10
              try clear p7
              try clear q10
              try clear q7
              obtain ⟨kq, x16_10, rfl, HA, HJ10, ⟨mc10, rfl⟩⟩ := hcut
              cases kq with
              | zero => exact absurd HA.out (by simp [spec_borders.j0])
              | succ kj10 =>
                have H := HA.out
                clear HA
                simp only [spec_borders.j0] at H
                have HC17 := Aside0.mk H
                clear H
                go_upto_if 16 with (fail)
                repeat (go_quiet (fail); go_upto_if 16 with (fail))
                go_cut [16] (fun v16 wc => ∃ (kq : Nat) (x16_16 : Bool), v16 = .bool x16_16 ∧ Aside0 (spec_borders.j2 kq a0 a1 (bt a0 (ji4)) (bt a0 a1) x16_16 = some r) ∧ Aside0 (kq ≤ kj10) ∧ Drawn0 w wc)
                case first =>
                  have H := HC17.out
                  clear HC17
                  by_cases c18 : x16_10 = true
                  · subst c18
                    have H1 : (spec_borders.j2 kj10 a0 a1 (bt a0 (ji4)) (bt a0 a1) true) = some r := by rw [if_pos rfl] at H; exact H
                    clear H
                    have H := H1
                    clear H1
                    have H' := Aside0.mk H
                    clear H
                    go_wp2
                    repeat (go_quiet (fail); try go_wp2)
                    go_meet
                    case rel => exact ⟨_, (true), (by first | rfl | (simp; done) | (simp [*]; done)), H', ⟨by have := HJ10.out; first | omega | exact Nat.le_refl _⟩, by repeat (first | exact Drawn0.refl _ | apply Drawn0.step)⟩
                  · replace c18 := Bool.eq_false_iff.mpr c18
                    subst c18
                    have H1 : ((spec_upper.f (bt a0 (ji4))).bind fun t110 => (if t110 = true then ((spec_digit.f (bt a0 a1)).bind fun t111 => (spec_borders.j1 kj10 a0 a1 (bt a0 (ji4)) (bt a0 a1) t111)) else (spec_borders.j1 kj10 a0 a1 (bt a0 (ji4)) (bt a0 a1) false))) = some r := by rw [if_neg (show ¬ (false = true) by decide)] at H; exact H
                    clear H
                    have H := H1
                    clear H1
                    have HC19 := Aside0.mk H
                    clear H
                    go_upto_region 5 with (fail)
                    repeat (go_quiet (fail); go_upto_region 5 with (fail))
                    go_cut [16] (fun v16 wc => ∃ (kq : Nat) (x16_18 : Bool), v16 = .bool x16_18 ∧ Aside0 (spec_borders.j1 kq a0 a1 (bt a0 (ji4)) (bt a0 a1) x16_18 = some r) ∧ Aside0 (kq ≤ kj10) ∧ Drawn0 w wc)
                    case first =>
                      have H := HC19.out
                      clear HC19
                      replace H := Option.bind_eq_some_iff.mp H
                      obtain ⟨t110, A200, H⟩ := H
                      replace H : (if t110 = true then ((spec_digit.f (bt a0 a1)).bind fun t111 => (spec_borders.j1 kj10 a0 a1 (bt a0 (ji4)) (bt a0 a1) t111)) else (spec_borders.j1 kj10 a0 a1 (bt a0 (ji4)) (bt a0 a1) false)) = some r := H
                      have A20 := Aside0.mk A200
                      clear A200
                      by_cases c21 : t110 = true
                      · subst c21
                        have H1 : ((spec_digit.f (bt a0 a1)).bind fun t111 => (spec_borders.j1 kj10 a0 a1 (bt a0 (ji4)) (bt a0 a1) t111)) = some r := by rw [if_pos rfl] at H; exact H
                        clear H
                        have H := H1
                        clear H1
                        replace H := Option.bind_eq_some_iff.mp H
                        obtain ⟨t111, A220, H⟩ := H
                        replace H : (spec_borders.j1 kj10 a0 a1 (bt a0 (ji4)) (bt a0 a1) t111) = some r := H
                        have A22 := Aside0.mk A220
                        clear A220
                        have H' := Aside0.mk H
                        clear H
                        go_wp2_with (first | (go_at_call 27; (with_reducible refine (spec_upper.calls (bt a0 (ji4)) true _ A20.out).mono ?_); rintro e w' ⟨rfl, ⟨nd, rfl⟩⟩; (try first | exact ⟨rfl, _, World.drewN_drewN _ _ _⟩ | exact ⟨rfl, _, Eq.trans (World.drewN_drewN _ _ _) (congrArg (World.drewN _) (Nat.add_assoc _ _ _))⟩)) | (go_at_call 41; (with_reducible refine (spec_digit.calls (bt a0 a1) t111 _ A22.out).mono ?_); rintro e w' ⟨rfl, ⟨nd, rfl⟩⟩; (try first | exact ⟨rfl, _, World.drewN_drewN _ _ _⟩ | exact ⟨rfl, _, Eq.trans (World.drewN_drewN _ _ _) (congrArg (World.drewN _) (Nat.add_assoc _ _ _))⟩)))
                        repeat (go_quiet (first | (go_at_call 27; (with_reducible refine (spec_upper.calls (bt a0 (ji4)) true _ A20.out).mono ?_); rintro e w' ⟨rfl, ⟨nd, rfl⟩⟩; (try first | exact ⟨rfl, _, World.drewN_drewN _ _ _⟩ | exact ⟨rfl, _, Eq.trans (World.drewN_drewN _ _ _) (congrArg (World.drewN _) (Nat.add_assoc _ _ _))⟩)) | (go_at_call 41; (with_reducible refine (spec_digit.calls (bt a0 a1) t111 _ A22.out).mono ?_); rintro e w' ⟨rfl, ⟨nd, rfl⟩⟩; (try first | exact ⟨rfl, _, World.drewN_drewN _ _ _⟩ | exact ⟨rfl, _, Eq.trans (World.drewN_drewN _ _ _) (congrArg (World.drewN _) (Nat.add_assoc _ _ _))⟩))); try go_wp2_with (first | (go_at_call 27; (with_reducible refine (spec_upper.calls (bt a0 (ji4)) true _ A20.out).mono ?_); rintro e w' ⟨rfl, ⟨nd, rfl⟩⟩; (try first | exact ⟨rfl, _, World.drewN_drewN _ _ _⟩ | exact ⟨rfl, _, Eq.trans (World.drewN_drewN _ _ _) (congrArg (World.drewN _) (Nat.add_assoc _ _ _))⟩)) | (go_at_call 41; (with_reducible refine (spec_digit.calls (bt a0 a1) t111 _ A22.out).mono ?_); rintro e w' ⟨rfl, ⟨nd, rfl⟩⟩; (try first | exact ⟨rfl, _, World.drewN_drewN _ _ _⟩ | exact ⟨rfl, _, Eq.trans (World.drewN_drewN _ _ _) (congrArg (World.drewN _) (Nat.add_assoc _ _ _))⟩))))
                        go_meet
                        case rel => exact ⟨_, (t111), (by first | rfl | (simp; done) | (simp [*]; done)), H', ⟨by have := HJ10.out; first | omega | exact Nat.le_refl _⟩, by repeat (first | exact Drawn0.refl _ | apply Drawn0.step)⟩
                      · replace c21 := Bool.eq_false_iff.mpr c21
                        subst c21
                        have H1 : (spec_borders.j1 kj10 a0 a1 (bt a0 (ji4)) (bt a0 a1) false) = some r := by rw [if_neg (show ¬ (false = true) by decide)] at H; exact H
                        clear H
                        have H := H1
                        clear H1
                        have H' := Aside0.mk H
                        clear H
                        go_wp2_with (first | (go_at_call 27; (with_reducible refine (spec_upper.calls (bt a0 (ji4)) false _ A20.out).mono ?_); rintro e w' ⟨rfl, ⟨nd, rfl⟩⟩; (try first | exact ⟨rfl, _, World.drewN_drewN _ _ _⟩ | exact ⟨rfl, _, Eq.trans (World.drewN_drewN _ _ _) (congrArg (World.drewN _) (Nat.add_assoc _ _ _))⟩)))
                        repeat (go_quiet (first | (go_at_call 27; (with_reducible refine (spec_upper.calls (bt a0 (ji4)) false _ A20.out).mono ?_); rintro e w' ⟨rfl, ⟨nd, rfl⟩⟩; (try first | exact ⟨rfl, _, World.drewN_drewN _ _ _⟩ | exact ⟨rfl, _, Eq.trans (World.drewN_drewN _ _ _) (congrArg (World.drewN _) (Nat.add_assoc _ _ _))⟩))); try go_wp2_with (first | (go_at_call 27; (with_reducible refine (spec_upper.calls (bt a0 (ji4)) false _ A20.out).mono ?_); rintro e w' ⟨rfl, ⟨nd, rfl⟩⟩; (try first | exact ⟨rfl, _, World.drewN_drewN _ _ _⟩ | exact ⟨rfl, _, Eq.trans (World.drewN_drewN _ _ _) (congrArg (World.drewN _) (Nat.add_assoc _ _ _))⟩))))
                        go_meet
                        case rel => exact ⟨_, (false), (by first | rfl | (simp; done) | (simp [*]; done)), H', ⟨by have := HJ10.out; first | omega | exact Nat.le_refl _⟩, by repeat (first | exact Drawn0.refl _ | apply Drawn0.step)⟩
                    case rest =>
                      clear HC19
                      try clear c1
                      try clear p1
                      try clear q1
                      try clear hx1
                      try clear c2
                      try clear p2
                      try clear c3
                      try clear c3b0
                      try clear c5
                      try clear c5b0
                      try clear c6
                      try clear c6b0
                      try clear p6
                      try clear p7
                      try clear q7
                      try clear hx7
                      try clear c8
                      try clear c8b0
                      try clear c9
                      try clear c9b0
                      try clear c10
                      try clear p10
                      try clear q10
                      try clear hx10
                      try clear c13
                      try clear c15
                      try clear c18
                      try clear c21
                      try clear p1
                      try clear p10
                      try clear p2
                      try clear p6
                      try clear p7
                      try clear q1
                      try clear q10
                      try clear q7
                      obtain ⟨kq, x16_18, rfl, HA, HJ18, ⟨mc18, rfl⟩⟩ := hcut
                      cases kq with
                      | zero => exact absurd HA.out (by simp [spec_borders.j1])
                      | succ kj18 =>
                        have H := HA.out
                        clear HA
                        simp only [spec_borders.j1] at H
                        by_cases c23 : x16_18 = true
                        · subst c23
                          have H1 : (spec_borders.j2 kj18 a0 a1 (bt a0 (ji4)) (bt a0 a1) true) = some r := by rw [if_pos rfl] at H; exact H
                          clear H
                          have H := H1
                          clear H1
                          have H' := Aside0.mk H
                          clear H
                          go_wp2
                          repeat (go_quiet (fail); try go_wp2)
                          go_meet
                          case rel => exact ⟨_, (true), (by first | rfl | (simp; done) | (simp [*]; done)), H', ⟨by have := HJ10.out; have := HJ18.out; first | omega | exact Nat.le_refl _⟩, by repeat (first | exact Drawn0.refl _ | apply Drawn0.step)⟩
                        · replace c23 := Bool.eq_false_iff.mpr c23
                          subst c23
                          have H1 : ((spec_digit.f (bt a0 (ji4))).bind fun t112 => (if t112 = true then ((spec_upper.f (bt a0 a1)).bind fun t113 => (if t113 = true then (spec_borders.j2 kj18 a0 a1 (bt a0 (ji4)) (bt a0 a1) true) else ((spec_lower.f (bt a0 a1)).bind fun t114 => (spec_borders.j2 kj18 a0 a1 (bt a0 (ji4)) (bt a0 a1) t114)))) else (spec_borders.j2 kj18 a0 a1 (bt a0 (ji4)) (bt a0 a1) false))) = some r := by rw [if_neg (show ¬ (false = true) by decide)] at H; exact H
                          clear H
                          have H := H1
                          clear H1
                          replace H := Option.bind_eq_some_iff.mp H
                          obtain ⟨t112, A240, H⟩ := H
                          replace H : (if t112 = true then ((spec_upper.f (bt a0 a1)).bind fun t113 => (if t113 = true then (spec_borders.j2 kj18 a0 a1 (bt a0 (ji4)) (bt a0 a1) true) else ((spec_lower.f (bt a0 a1)).bind fun t114 => (spec_borders.j2 kj18 a0 a1 (bt a0 (ji4)) (bt a0 a1) t114)))) else (spec_borders.j2 kj18 a0 a1 (bt a0 (ji4)) (bt a0 a1) false)) = some r := H
                          have A24 := Aside0.mk A240
                          clear A240
                          by_cases c25 : t112 = true
                          · subst c25
                            have H1 : ((spec_upper.f (bt a0 a1)).bind fun t113 => (if t113 = true then (spec_borders.j2 kj18 a0 a1 (bt a0 (ji4)) (bt a0 a1) true) else ((spec_lower.f (bt a0 a1)).bind fun t114 => (spec_borders.j2 kj18 a0 a1 (bt a0 (ji4)) (bt a0 a1) t114)))) = some r := by rw [if_pos rfl] at H; exact H
                            clear H
                            have H := H1
                            clear H1
                            replace H := Option.bind_eq_some_iff.mp H
                            obtain ⟨t113, A260, H⟩ := H
                            replace H : (if t113 = true then (spec_borders.j2 kj18 a0 a1 (bt a0 (ji4)) (bt a0 a1) true) else ((spec_lower.f (bt a0 a1)).bind fun t114 => (spec_borders.j2 kj18 a0 a1 (bt a0 (ji4)) (bt a0 a1) t114))) = some r := H
                            have A26 := Aside0.mk A260
                            clear A260
                            by_cases c27 : t113 = true
                            · subst c27
                              have H1 : (spec_borders.j2 kj18 a0 a1 (bt a0 (ji4)) (bt a0 a1) true) = some r := by rw [if_pos rfl] at H; exact H
                              clear H
                              have H := H1
                              clear H1
                              have H' := Aside0.mk H
                              clear H
                              go_wp2_with (first | (go_at_call 41; (with_reducible refine (spec_digit.calls (bt a0 (ji4)) true _ A24.out).mono ?_); rintro e w' ⟨rfl, ⟨nd, rfl⟩⟩; (try first | exact ⟨rfl, _, World.drewN_drewN _ _ _⟩ | exact ⟨rfl, _, Eq.trans (World.drewN_drewN _ _ _) (congrArg (World.drewN _) (Nat.add_assoc _ _ _))⟩)) | (go_at_call 27; (with_reducible refine (spec_upper.calls (bt a0 a1) true _ A26.out).mono ?_); rintro e w' ⟨rfl, ⟨nd, rfl⟩⟩; (try first | exact ⟨rfl, _, World.drewN_drewN _ _ _⟩ | exact ⟨rfl, _, Eq.trans (World.drewN_drewN _ _ _) (congrArg (World.drewN _) (Nat.add_assoc _ _ _))⟩)))
                              repeat (go_quiet (first | (go_at_call 41; (with_reducible refine (spec_digit.calls (bt a0 (ji4)) true _ A24.out).mono ?_); rintro e w' ⟨rfl, ⟨nd, rfl⟩⟩; (try first | exact ⟨rfl, _, World.drewN_drewN _ _ _⟩ | exact ⟨rfl, _, Eq.trans (World.drewN_drewN _ _ _) (congrArg (World.drewN _) (Nat.add_assoc _ _ _))⟩)) | (go_at_call 27; (with_reducible refine (spec_upper.calls (bt a0 a1) true _ A26.out).mono ?_); rintro e w' ⟨rfl, ⟨nd, rfl⟩⟩; (try first | exact ⟨rfl, _, World.drewN_drewN _ _ _⟩ | exact ⟨rfl, _, Eq.trans (World.drewN_drewN _ _ _) (congrArg (World.drewN _) (Nat.add_assoc _ _ _))⟩))); try go_wp2_with (first | (go_at_call 41; (with_reducible refine (spec_digit.calls (bt a0 (ji4)) true _ A24.out).mono ?_); rintro e w' ⟨rfl, ⟨nd, rfl⟩⟩; (try first | exact ⟨rfl, _, World.drewN_drewN _ _ _⟩ | exact ⟨rfl, _, Eq.trans (World.drewN_drewN _ _ _) (congrArg (World.drewN _) (Nat.add_assoc _ _ _))⟩)) | (go_at_call 27; (with_reducible refine (spec_upper.calls (bt a0 a1) true _ A26.out).mono ?_); rintro e w' ⟨rfl, ⟨nd, rfl⟩⟩; (try first | exact ⟨rfl, _, World.drewN_drewN _ _ _⟩ | exact ⟨rfl, _, Eq.trans (World.drewN_drewN _ _ _) (congrArg (World.drewN _) (Nat.add_assoc _ _ _))⟩))))
                              go_meet
                              case rel => exact ⟨_, (true), (by first | rfl | (simp; done) | (simp [*]; done)), H', ⟨by have := HJ10.out; have := HJ18.out; first | omega | exact Nat.le_refl _⟩, by repeat (first | exact Drawn0.refl _ | apply Drawn0.step)⟩
                            · replace c27 := Bool.eq_false_iff.mpr c27
                              subst c27
                              have H1 : ((spec_lower.f (bt a0 a1)).bind fun t114 => (spec_borders.j2 kj18 a0 a1 (bt a0 (ji4)) (bt a0 a1) t114)) = some r := by rw [if_neg (show ¬ (false = true) by decide)] at H; exact H
                              clear H
                              have H := H1
                              clear H1
                              replace H := Option.bind_eq_some_iff.mp H
                              obtain ⟨t114, A280, H⟩ := H
                              replace H : (spec_borders.j2 kj18 a0 a1 (bt a0 (ji4)) (bt a0 a1) t114) = some r := H
                              have A28 := Aside0.mk A280
                              clear A280
                              have H' := Aside0.mk H
                              clear H
                              go_wp2_with (first | (go_at_call 41; (with_reducible refine (spec_digit.calls (bt a0 (ji4)) true _ A24.out).mono ?_); rintro e w' ⟨rfl, ⟨nd, rfl⟩⟩; (try first | exact ⟨rfl, _, World.drewN_drewN _ _ _⟩ | exact ⟨rfl, _, Eq.trans (World.drewN_drewN _ _ _) (congrArg (World.drewN _) (Nat.add_assoc _ _ _))⟩)) | (go_at_call 27; (with_reducible refine (spec_upper.calls (bt a0 a1) false _ A26.out).mono ?_); rintro e w' ⟨rfl, ⟨nd, rfl⟩⟩; (try first | exact ⟨rfl, _, World.drewN_drewN _ _ _⟩ | exact ⟨rfl, _, Eq.trans (World.drewN_drewN _ _ _) (congrArg (World.drewN _) (Nat.add_assoc _ _ _))⟩)) | (go_at_call 23; (with_reducible refine (spec_lower.calls (bt a0 a1) t114 _ A28.out).mono ?_); rintro e w' ⟨rfl, ⟨nd, rfl⟩⟩; (try first | exact ⟨rfl, _, World.drewN_drewN _ _ _⟩ | exact ⟨rfl, _, Eq.trans (World.drewN_drewN _ _ _) (congrArg (World.drewN _) (Nat.add_assoc _ _ _))⟩)))
                              repeat (go_quiet (first | (go_at_call 41; (with_reducible refine (spec_digit.calls (bt a0 (ji4)) true _ A24.out).mono ?_); rintro e w' ⟨rfl, ⟨nd, rfl⟩⟩; (try first | exact ⟨rfl, _, World.drewN_drewN _ _ _⟩ | exact ⟨rfl, _, Eq.trans (World.drewN_drewN _ _ _) (congrArg (World.drewN _) (Nat.add_assoc _ _ _))⟩)) | (go_at_call 27; (with_reducible refine (spec_upper.calls (bt a0 a1) false _ A26.out).mono ?_); rintro e w' ⟨rfl, ⟨nd, rfl⟩⟩; (try first | exact ⟨rfl, _, World.drewN_drewN _ _ _⟩ | exact ⟨rfl, _, Eq.trans (World.drewN_drewN _ _ _) (congrArg (World.drewN _) (Nat.add_assoc _ _ _))⟩)) | (go_at_call 23; (with_reducible refine (spec_lower.calls (bt a0 a1) t114 _ A28.out).mono ?_); rintro e w' ⟨rfl, ⟨nd, rfl⟩⟩; (try first | exact ⟨rfl, _, World.drewN_drewN _ _ _⟩ | exact ⟨rfl, _, Eq.trans (World.drewN_drewN _ _ _) (congrArg (World.drewN _) (Nat.add_assoc _ _ _))⟩))); try go_wp2_with (first | (go_at_call 41; (with_reducible refine (spec_digit.calls (bt a0 (ji4)) true _ A24.out).mono ?_); rintro e w' ⟨rfl, ⟨nd, rfl⟩⟩; (try first | exact ⟨rfl, _, World.drewN_drewN _ _ _⟩ | exact ⟨rfl, _, Eq.trans (World.drewN_drewN _ _ _) (congrArg (World.drewN _) (Nat.add_assoc _ _ _))⟩)) | (go_at_call 27; (with_reducible refine (spec_upper.calls (bt a0 a1) false _ A26.out).mono ?_); rintro e w' ⟨rfl, ⟨nd, rfl⟩⟩; (try first | exact ⟨rfl, _, World.drewN_drewN _ _ _⟩ | exact ⟨rfl, _, Eq.trans (World.drewN_drewN _ _ _) (congrArg (World.drewN _) (Nat.add_assoc _ _ _))⟩)) | (go_at_call 23; (with_reducible refine (spec_lower.calls (bt a0 a1) t114 _ A28.out).mono ?_); rintro e w' ⟨rfl, ⟨nd, rfl⟩⟩; (try first | exact ⟨rfl, _, World.drewN_drewN _ _ _⟩ | exact ⟨rfl, _, Eq.trans (World.drewN_drewN _ _ _) (congrArg (World.drewN _) (Nat.add_assoc _ _ _))⟩))))
                              go_meet
                              case rel => exact ⟨_, (t114), (by first | rfl | (simp; done) | (simp [*]; done)), H', ⟨by have := HJ10.out; have := HJ18.out; first | omega | exact Nat.le_refl _⟩, by repeat (first | exact Drawn0.refl _ | apply Drawn0.step)⟩
                          · replace c25 := Bool.eq_false_iff.mpr c25
                            subst c25
                            have H1 : (spec_borders.j2 kj18 a0 a1 (bt a0 (ji4)) (bt a0 a1) false) = some r := by rw [if_neg (show ¬ (false = true) by decide)] at H; exact H
                            clear H
                            have H := H1
                            clear H1
                            have H' := Aside0.mk H
                            clear H
                            go_wp2_with (first | (go_at_call 41; (with_reducible refine (spec_digit.calls (bt a0 (ji4)) false _ A24.out).mono ?_); rintro e w' ⟨rfl, ⟨nd, rfl⟩⟩; (try first | exact ⟨rfl, _, World.drewN_drewN _ _ _⟩ | exact ⟨rfl, _, Eq.trans (World.drewN_drewN _ _ _) (congrArg (World.drewN _) (Nat.add_assoc _ _ _))⟩)))
                            repeat (go_quiet (first | (go_at_call 41; (with_reducible refine (spec_digit.calls (bt a0 (ji4)) false _ A24.out).mono ?_); rintro e w' ⟨rfl, ⟨nd, rfl⟩⟩; (try first | exact ⟨rfl, _, World.drewN_drewN _ _ _⟩ | exact ⟨rfl, _, Eq.trans (World.drewN_drewN _ _ _) (congrArg (World.drewN _) (Nat.add_assoc _ _ _))⟩))); try go_wp2_with (first | (go_at_call 41; (with_reducible refine (spec_digit.calls (bt a0 (ji4)) false _ A24.out).mono ?_); rintro e w' ⟨rfl, ⟨nd, rfl⟩⟩; (try first | exact ⟨rfl, _, World.drewN_drewN _ _ _⟩ | exact ⟨rfl, _, Eq.trans (World.drewN_drewN _ _ _) (congrArg (World.drewN _) (Nat.add_assoc _ _ _))⟩))))
                            go_meet
                            case rel => exact ⟨_, (false), (by first | rfl | (simp; done) | (simp [*]; done)), H', ⟨by have := HJ10.out; have := HJ18.out; first | omega | exact Nat.le_refl _⟩, by repeat (first | exact Drawn0.refl _ | apply Drawn0.step)⟩
                case rest =>
                  clear HC17
                  try clear c1
                  try clear p1
                  try clear q1
                  try clear hx1
                  try clear c2
                  try clear p2
                  try clear c3
                  try clear c3b0
                  try clear c5
                  try clear c5b0
                  try clear c6
                  try clear c6b0
                  try clear p6
                  try clear p7
                  try clear q7
                  try clear hx7
                  try clear c8
                  try clear c8b0
                  try clear c9
                  try clear c9b0
                  try clear c10
                  try clear p10
                  try clear q10
                  try clear hx10
                  try clear c13
                  try clear c15
                  try clear c18
                  try clear c21
                  try clear c23
                  try clear c25
                  try clear c27
                  try clear p1
                  try clear p10
                  try clear p2
                  try clear p6
                  try clear p7
                  try clear q1
                  try clear q10
                  try clear q7
                  obtain ⟨kq, x16_16, rfl, HA, HJ16, ⟨mc16, rfl⟩⟩ := hcut
                  cases kq with
                  | zero => exact absurd HA.out (by simp [spec_borders.j2])
                  | succ kj16 =>
                    have H := HA.out
                    clear HA
                    simp only [spec_borders.j2] at H
                    by_cases c29 : x16_16 = true
                    · subst c29
                      have H1 : (some true) = some r := by rw [if_pos rfl] at H; exact H
                      clear H
                      have H := H1
                      clear H1
                      obtain rfl := Option.some.inj H
                      go_wp2
                      repeat (go_quiet (fail); try go_wp2)
                      go_ret
                      exact ⟨by first | rfl | (simp; done) | (simp only [← hji4] <;> (first | rfl | simp)) | (simp [*]; done), by repeat (first | exact Drawn0.refl _ | apply Drawn0.step)⟩
                    · replace c29 := Bool.eq_false_iff.mpr c29
                      subst c29
                      have H1 : ((spec_upper.f (bt a0 (ji4))).bind fun t115 => (if t115 = true then ((spec_upper.f (bt a0 a1)).bind fun t116 => (if t116 = true then (if (wrap64 (a1 + 1)) < (a0.size : Int) then (if 0 ≤ (wrap64 (a1 + 1)) then ((spec_lower.f (bt a0 (wrap64 (a1 + 1)))).bind fun t117 => (some t117)) else (none)) else (some false)) else (some false))) else (some false))) = some r := by rw [if_neg (show ¬ (false = true) by decide)] at H; exact H
                      clear H
                      have H := H1
                      clear H1
                      replace H := Option.bind_eq_some_iff.mp H
                      obtain ⟨t115, A300, H⟩ := H
                      replace H : (if t115 = true then ((spec_upper.f (bt a0 a1)).bind fun t116 => (if t116 = true then (if (wrap64 (a1 + 1)) < (a0.size : Int) then (if 0 ≤ (wrap64 (a1 + 1)) then ((spec_lower.f (bt a0 (wrap64 (a1 + 1)))).bind fun t117 => (some t117)) else (none)) else (some false)) else (some false))) else (some false)) = some r := H
                      have A30 := Aside0.mk A300
                      clear A300
                      by_cases c31 : t115 = true
                      · subst c31
                        have H1 : ((spec_upper.f (bt a0 a1)).bind fun t116 => (if t116 = true then (if (wrap64 (a1 + 1)) < (a0.size : Int) then (if 0 ≤ (wrap64 (a1 + 1)) then ((spec_lower.f (bt a0 (wrap64 (a1 + 1)))).bind fun t117 => (some t117)) else (none)) else (some false)) else (some false))) = some r := by rw [if_pos rfl] at H; exact H
                        clear H
                        have H := H1
                        clear H1
                        replace H := Option.bind_eq_some_iff.mp H
                        obtain ⟨t116, A320, H⟩ := H
                        replace H : (if t116 = true then (if (wrap64 (a1 + 1)) < (a0.size : Int) then (if 0 ≤ (wrap64 (a1 + 1)) then ((spec_lower.f (bt a0 (wrap64 (a1 + 1)))).bind fun t117 => (some t117)) else (none)) else (some false)) else (some false)) = some r := H
                        have A32 := Aside0.mk A320
                        clear A320
                        by_cases c33 : t116 = true
                        · subst c33
                          have H1 : (if (wrap64 (a1 + 1)) < (a0.size : Int) then (if 0 ≤ (wrap64 (a1 + 1)) then ((spec_lower.f (bt a0 (wrap64 (a1 + 1)))).bind fun t117 => (some t117)) else (none)) else (some false)) = some r := by rw [if_pos rfl] at H; exact H
                          clear H
                          have H := H1
                          clear H1
                          by_cases c34 : (wrap64 (a1 + 1)) < (a0.size : Int)
                          · rw [if_pos c34] at H
                            have c34b0 : decide ((wrap64 (a1 + 1)) < (a0.size : Int)) = true := decide_eq_true c34
                            clear c34
                            obtain ⟨ji35, hji35⟩ : ∃ j_ : Int, (wrap64 (a1 + 1)) = j_ := ⟨_, rfl⟩
                            replace H : (if 0 ≤ (ji35) then ((spec_lower.f (bt a0 (ji35))).bind fun t117 => (some t117)) else (none)) = some r := by first | (rw [hji35] at H; exact H) | (simp only [hji35] at H ⊢; exact H)
                            (try rw [hji35] at c34b0)
                            (try rw [hji35] at A30)
                            (try rw [hji35] at A32)
                            have hji35w : (IntKind.i64.wrap (a1 + 1)) = ji35 := (i64_w _).trans hji35
                            by_cases c36 : 0 ≤ (ji35)
                            · rw [if_pos c36] at H
                              have c36b0 : decide (0 ≤ (ji35)) = true := decide_eq_true c36
                              clear c36
                              replace H := Option.bind_eq_some_iff.mp H
                              obtain ⟨t117, A380, H⟩ := H
                              replace H : (some t117) = some r := H
                              have A38 := Aside0.mk A380
                              clear A380
                              obtain rfl := Option.some.inj H
                              go_wp2_with (first | (go_at_call 27; (with_reducible refine (spec_upper.calls (bt a0 (ji4)) true _ A30.out).mono ?_); rintro e w' ⟨rfl, ⟨nd, rfl⟩⟩; (try first | exact ⟨rfl, _, World.drewN_drewN _ _ _⟩ | exact ⟨rfl, _, Eq.trans (World.drewN_drewN _ _ _) (congrArg (World.drewN _) (Nat.add_assoc _ _ _))⟩)) | (go_at_call 27; (with_reducible refine (spec_upper.calls (bt a0 a1) true _ A32.out).mono ?_); rintro e w' ⟨rfl, ⟨nd, rfl⟩⟩; (try first | exact ⟨rfl, _, World.drewN_drewN _ _ _⟩ | exact ⟨rfl, _, Eq.trans (World.drewN_drewN _ _ _) (congrArg (World.drewN _) (Nat.add_assoc _ _ _))⟩); have p37 : 0 ≤ ((ji35) : Int) := of_decide_eq_true (by first | (with_reducible assumption) | assumption); have q37 : (ji35) < (a0.size : Int) := of_decide_eq_true (by first | (with_reducible assumption) | assumption); have hx37 := bt_at a0 (ji35); replace p37 := eq_true p37; replace q37 := eq_true q37) | (go_at_call 23; (with_reducible refine (spec_lower.calls (bt a0 (ji35)) t117 _ A38.out).mono ?_); rintro e w' ⟨rfl, ⟨nd, rfl⟩⟩; (try first | exact ⟨rfl, _, World.drewN_drewN _ _ _⟩ | exact ⟨rfl, _, Eq.trans (World.drewN_drewN _ _ _) (congrArg (World.drewN _) (Nat.add_assoc _ _ _))⟩)))
                              repeat (go_quiet (first | (go_at_call 27; (with_reducible refine (spec_upper.calls (bt a0 (ji4)) true _ A30.out).mono ?_); rintro e w' ⟨rfl, ⟨nd, rfl⟩⟩; (try first | exact ⟨rfl, _, World.drewN_drewN _ _ _⟩ | exact ⟨rfl, _, Eq.trans (World.drewN_drewN _ _ _) (congrArg (World.drewN _) (Nat.add_assoc _ _ _))⟩)) | (go_at_call 27; (with_reducible refine (spec_upper.calls (bt a0 a1) true _ A32.out).mono ?_); rintro e w' ⟨rfl, ⟨nd, rfl⟩⟩; (try first | exact ⟨rfl, _, World.drewN_drewN _ _ _⟩ | exact ⟨rfl, _, Eq.trans (World.drewN_drewN _ _ _) (congrArg (World.drewN _) (Nat.add_assoc _ _ _))⟩); have p37 : 0 ≤ ((ji35) : Int) := of_decide_eq_true (by first | (with_reducible assumption) | assumption); have q37 : (ji35) < (a0.size : Int) := of_decide_eq_true (by first | (with_reducible assumption) | assumption); have hx37 := bt_at a0 (ji35); replace p37 := eq_true p37; replace q37 := eq_true q37) | (go_at_call 23; (with_reducible refine (spec_lower.calls (bt a0 (ji35)) t117 _ A38.out).mono ?_); rintro e w' ⟨rfl, ⟨nd, rfl⟩⟩; (try first | exact ⟨rfl, _, World.drewN_drewN _ _ _⟩ | exact ⟨rfl, _, Eq.trans (World.drewN_drewN _ _ _) (congrArg (World.drewN _) (Nat.add_assoc _ _ _))⟩))); try go_wp2_with (first | (go_at_call 27; (with_reducible refine (spec_upper.calls (bt a0 (ji4)) true _ A30.out).mono ?_); rintro e w' ⟨rfl, ⟨nd, rfl⟩⟩; (try first | exact ⟨rfl, _, World.drewN_drewN _ _ _⟩ | exact ⟨rfl, _, Eq.trans (World.drewN_drewN _ _ _) (congrArg (World.drewN _) (Nat.add_assoc _ _ _))⟩)) | (go_at_call 27; (with_reducible refine (spec_upper.calls (bt a0 a1) true _ A32.out).mono ?_); rintro e w' ⟨rfl, ⟨nd, rfl⟩⟩; (try first | exact ⟨rfl, _, World.drewN_drewN _ _ _⟩ | exact ⟨rfl, _, Eq.trans (World.drewN_drewN _ _ _) (congrArg (World.drewN _) (Nat.add_assoc _ _ _))⟩); have p37 : 0 ≤ ((ji35) : Int) := of_decide_eq_true (by first | (with_reducible assumption) | assumption); have q37 : (ji35) < (a0.size : Int) := of_decide_eq_true (by first | (with_reducible assumption) | assumption); have hx37 := bt_at a0 (ji35); replace p37 := eq_true p37; replace q37 := eq_true q37) | (go_at_call 23; (with_reducible refine (spec_lower.calls (bt a0 (ji35)) t117 _ A38.out).mono ?_); rintro e w' ⟨rfl, ⟨nd, rfl⟩⟩; (try first | exact ⟨rfl, _, World.drewN_drewN _ _ _⟩ | exact ⟨rfl, _, Eq.trans (World.drewN_drewN _ _ _) (congrArg (World.drewN _) (Nat.add_assoc _ _ _))⟩))))
                              go_ret
                              exact ⟨by first | rfl | (simp; done) | (simp only [← hji4, ← hji35] <;> (first | rfl | simp)) | (simp [*]; done), by repeat (first | exact Drawn0.refl _ | apply Drawn0.step)⟩
                            · rw [if_neg c36] at H
                              exact absurd H (by simp)
                          · rw [if_neg c34] at H
                            have c34b0 : decide ((wrap64 (a1 + 1)) < (a0.size : Int)) = false := decide_eq_false c34
                            clear c34
                            obtain rfl := Option.some.inj H
                            go_wp2_with (first | (go_at_call 27; (with_reducible refine (spec_upper.calls (bt a0 (ji4)) true _ A30.out).mono ?_); rintro e w' ⟨rfl, ⟨nd, rfl⟩⟩; (try first | exact ⟨rfl, _, World.drewN_drewN _ _ _⟩ | exact ⟨rfl, _, Eq.trans (World.drewN_drewN _ _ _) (congrArg (World.drewN _) (Nat.add_assoc _ _ _))⟩)) | (go_at_call 27; (with_reducible refine (spec_upper.calls (bt a0 a1) true _ A32.out).mono ?_); rintro e w' ⟨rfl, ⟨nd, rfl⟩⟩; (try first | exact ⟨rfl, _, World.drewN_drewN _ _ _⟩ | exact ⟨rfl, _, Eq.trans (World.drewN_drewN _ _ _) (congrArg (World.drewN _) (Nat.add_assoc _ _ _))⟩)))
                            repeat (go_quiet (first | (go_at_call 27; (with_reducible refine (spec_upper.calls (bt a0 (ji4)) true _ A30.out).mono ?_); rintro e w' ⟨rfl, ⟨nd, rfl⟩⟩; (try first | exact ⟨rfl, _, World.drewN_drewN _ _ _⟩ | exact ⟨rfl, _, Eq.trans (World.drewN_drewN _ _ _) (congrArg (World.drewN _) (Nat.add_assoc _ _ _))⟩)) | (go_at_call 27; (with_reducible refine (spec_upper.calls (bt a0 a1) true _ A32.out).mono ?_); rintro e w' ⟨rfl, ⟨nd, rfl⟩⟩; (try first | exact ⟨rfl, _, World.drewN_drewN _ _ _⟩ | exact ⟨rfl, _, Eq.trans (World.drewN_drewN _ _ _) (congrArg (World.drewN _) (Nat.add_assoc _ _ _))⟩))); try go_wp2_with (first | (go_at_call 27; (with_reducible refine (spec_upper.calls (bt a0 (ji4)) true _ A30.out).mono ?_); rintro e w' ⟨rfl, ⟨nd, rfl⟩⟩; (try first | exact ⟨rfl, _, World.drewN_drewN _ _ _⟩ | exact ⟨rfl, _, Eq.trans (World.drewN_drewN _ _ _) (congrArg (World.drewN _) (Nat.add_assoc _ _ _))⟩)) | (go_at_call 27; (with_reducible refine (spec_upper.calls (bt a0 a1) true _ A32.out).mono ?_); rintro e w' ⟨rfl, ⟨nd, rfl⟩⟩; (try first | exact ⟨rfl, _, World.drewN_drewN _ _ _⟩ | exact ⟨rfl, _, Eq.trans (World.drewN_drewN _ _ _) (congrArg (World.drewN _) (Nat.add_assoc _ _ _))⟩))))
                            go_ret
                            exact ⟨by first | rfl | (simp; done) | (simp only [← hji4] <;> (first | rfl | simp)) | (simp [*]; done), by repeat (first | exact Drawn0.refl _ | apply Drawn0.step)⟩
                        · replace c33 := Bool.eq_false_iff.mpr c33
                          subst c33
                          have H1 : (some false) = some r := by rw [if_neg (show ¬ (false = true) by decide)] at H; exact H
                          clear H
                          have H := H1
                          clear H1
                          obtain rfl := Option.some.inj H
                          go_wp2_with (first | (go_at_call 27; (with_reducible refine (spec_upper.calls (bt a0 (ji4)) true _ A30.out).mono ?_); rintro e w' ⟨rfl, ⟨nd, rfl⟩⟩; (try first | exact ⟨rfl, _, World.drewN_drewN _ _ _⟩ | exact ⟨rfl, _, Eq.trans (World.drewN_drewN _ _ _) (congrArg (World.drewN _) (Nat.add_assoc _ _ _))⟩)) | (go_at_call 27; (with_reducible refine (spec_upper.calls (bt a0 a1) false _ A32.out).mono ?_); rintro e w' ⟨rfl, ⟨nd, rfl⟩⟩; (try first | exact ⟨rfl, _, World.drewN_drewN _ _ _⟩ | exact ⟨rfl, _, Eq.trans (World.drewN_drewN _ _ _) (congrArg (World.drewN _) (Nat.add_assoc _ _ _))⟩)))
                          repeat (go_quiet (first | (go_at_call 27; (with_reducible refine (spec_upper.calls (bt a0 (ji4)) true _ A30.out).mono ?_); rintro e w' ⟨rfl, ⟨nd, rfl⟩⟩; (try first | exact ⟨rfl, _, World.drewN_drewN _ _ _⟩ | exact ⟨rfl, _, Eq.trans (World.drewN_drewN _ _ _) (congrArg (World.drewN _) (Nat.add_assoc _ _ _))⟩)) | (go_at_call 27; (with_reducible refine (spec_upper.calls (bt a0 a1) false _ A32.out).mono ?_); rintro e w' ⟨rfl, ⟨nd, rfl⟩⟩; (try first | exact ⟨rfl, _, World.drewN_drewN _ _ _⟩ | exact ⟨rfl, _, Eq.trans (World.drewN_drewN _ _ _) (congrArg (World.drewN _) (Nat.add_assoc _ _ _))⟩))); try go_wp2_with (first | (go_at_call 27; (with_reducible refine (spec_upper.calls (bt a0 (ji4)) true _ A30.out).mono ?_); rintro e w' ⟨rfl, ⟨nd, rfl⟩⟩; (try first | exact ⟨rfl, _, World.drewN_drewN _ _ _⟩ | exact ⟨rfl, _, Eq.trans (World.drewN_drewN _ _ _) (congrArg (World.drewN _) (Nat.add_assoc _ _ _))⟩)) | (go_at_call 27; (with_reducible refine (spec_upper.calls (bt a0 a1) false _ A32.out).mono ?_); rintro e w' ⟨rfl, ⟨nd, rfl⟩⟩; (try first | exact ⟨rfl, _, World.drewN_drewN _ _ _⟩ | exact ⟨rfl, _, Eq.trans (World.drewN_drewN _ _ _) (congrArg (World.drewN _) (Nat.add_assoc _ _ _))⟩))))
                          go_ret
                          exact ⟨by first | rfl | (simp; done) | (simp only [← hji4] <;> (first | rfl | simp)) | (simp [*]; done), by repeat (first | exact Drawn0.refl _ | apply Drawn0.step)⟩
                      · replace c31 := Bool.eq_false_iff.mpr c31
                        subst c31
                        have H1 : (some false) = some r := by rw [if_neg (show ¬ (false = true) by decide)] at H; exact H
                        clear H
                        have H := H1
                        clear H1
                        obtain rfl := Option.some.inj H
                        go_wp2_with (first | (go_at_call 27; (with_reducible refine (spec_upper.calls (bt a0 (ji4)) false _ A30.out).mono ?_); rintro e w' ⟨rfl, ⟨nd, rfl⟩⟩; (try first | exact ⟨rfl, _, World.drewN_drewN _ _ _⟩ | exact ⟨rfl, _, Eq.trans (World.drewN_drewN _ _ _) (congrArg (World.drewN _) (Nat.add_assoc _ _ _))⟩)))
                        repeat (go_quiet (first | (go_at_call 27; (with_reducible refine (spec_upper.calls (bt a0 (ji4)) false _ A30.out).mono ?_); rintro e w' ⟨rfl, ⟨nd, rfl⟩⟩; (try first | exact ⟨rfl, _, World.drewN_drewN _ _ _⟩ | exact ⟨rfl, _, Eq.trans (World.drewN_drewN _ _ _) (congrArg (World.drewN _) (Nat.add_assoc _ _ _))⟩))); try go_wp2_with (first | (go_at_call 27; (with_reducible refine (spec_upper.calls (bt a0 (ji4)) false _ A30.out).mono ?_); rintro e w' ⟨rfl, ⟨nd, rfl⟩⟩; (try first | exact ⟨rfl, _, World.drewN_drewN _ _ _⟩ | exact ⟨rfl, _, Eq.trans (World.drewN_drewN _ _ _) (congrArg (World.drewN _) (Nat.add_assoc _ _ _))⟩))))
                        go_ret
                        exact ⟨by first | rfl | (simp; done) | (simp only [← hji4] <;> (first | rfl | simp)) | (simp [*]; done), by repeat (first | exact Drawn0.refl _ | apply Drawn0.step)⟩
          · rw [if_neg c9] at H
            exact absurd H (by simp)
        · rw [if_neg c8] at H
          exact absurd H (by simp)
      · rw [if_neg c6] at H
        exact absurd H (by simp)
    · rw [if_neg c5] at H
      exact absurd H (by simp)

/-! ### spec_holds: function 26 -/
def spec_holds.l0 : Nat → ByteArray → Int → Int → Int → Option (Bool)
  | 0, _, _, _, _ => none
  | k + 1, x0, x1, x7, x8 => if x8 < x7 then (if 0 ≤ x8 then (if x8 < (x0.size : Int) then (if (bt x0 x8) = x1 then (some true) else (spec_holds.l0 k x0 x1 x7 (wrap64 (x8 + 1)))) else (none)) else (none)) else (some false)
def spec_holds.f (k : Nat) (a0 : ByteArray) (a1 : Int) : Option (Bool) := spec_holds.l0 k a0 a1 (a0.size : Int) 0
theorem spec_holds.mono_l : ∀ k, (∀ y0 y1 y2 y3, LeO (spec_holds.l0 k y0 y1 y2 y3) (spec_holds.l0 (k + 1) y0 y1 y2 y3))
  | 0 => fun _ _ _ _ r h => by simp [spec_holds.l0] at h
  | k + 1 => by
    have ih0 := spec_holds.mono_l k
    · intro y0 y1 y2 y3
      unfold spec_holds.l0
      repeat' first
      | (with_reducible exact ih0 _ _ _ _)
      | (with_reducible exact LeO.refl _)
      | (with_reducible exact LeO.none _)
      | (with_reducible refine LeO.ite ?_ ?_)
      | (with_reducible refine LeO.bind ?_ (fun _ => ?_))
      | exact ih0 _ _ _ _
      | exact LeO.none _
      | refine LeO.ite ?_ ?_
      | refine LeO.bind ?_ (fun _ => ?_)
theorem spec_holds.mono : ∀ a0 a1 k, LeO (spec_holds.f k a0 a1) (spec_holds.f (k + 1) a0 a1) := by
  intro a0 a1 k
  have ih0 := spec_holds.mono_l k
  unfold spec_holds.f
  repeat' first
      | (with_reducible exact ih0 _ _ _ _)
      | (with_reducible exact LeO.refl _)
      | (with_reducible exact LeO.none _)
      | (with_reducible refine LeO.ite ?_ ?_)
      | (with_reducible refine LeO.bind ?_ (fun _ => ?_))
      | exact ih0 _ _ _ _
      | exact LeO.none _
      | refine LeO.ite ?_ ?_
      | refine LeO.bind ?_ (fun _ => ?_)
set_option maxHeartbeats 8000000 in
set_option maxRecDepth 100000 in
theorem spec_holds.calls (k : Nat) (a0 : ByteArray) (a1 : Int) (r : Bool) (w : World) (h : spec_holds.f k a0 a1 = some r) :
    Calls Tryd.prog 26 #[.string a0, .int .u8 a1] w fun e w' => e = .returned (.bool r) ∧ Drawn0 w w' := by
  have H : (spec_holds.l0 k a0 a1 (a0.size : Int) 0) = some r := h
  clear h
  have H' := Aside0.mk H
  clear H
  go_enter Tryd.func26, Tryd.ntmps26
  go_wp2
  go_loopg [8] k (fun kq v8 w' => ∃ (x8_1 : Int), v8 = .int .i64 x8_1 ∧ Aside0 (spec_holds.l0 kq a0 a1 (a0.size : Int) x8_1 = some r) ∧ Aside0 (kq ≤ k) ∧ Drawn0 w w')
  case atStart => exact ⟨(0), (by first | rfl | (simp; done) | (simp [*]; done)), H', ⟨Nat.le_refl _⟩, by repeat (first | exact Drawn0.refl _ | apply Drawn0.step)⟩
  case round =>
    clear H'
    try clear c2
    try clear p2
    obtain ⟨x8_1, rfl, HA, HK1, ⟨m1, rfl⟩⟩ := hrel
    cases gk with
    | zero => exact absurd HA.out (by simp [spec_holds.l0])
    | succ k1 =>
      have H := HA.out
      clear HA
      simp only [spec_holds.l0] at H
      by_cases c3 : x8_1 < (a0.size : Int)
      · rw [if_pos c3] at H
        have c3b0 : decide (x8_1 < (a0.size : Int)) = true := decide_eq_true c3
        clear c3
        by_cases c4 : 0 ≤ x8_1
        · rw [if_pos c4] at H
          have c4b0 : decide (0 ≤ x8_1) = true := decide_eq_true c4
          clear c4
          by_cases c5 : x8_1 < (a0.size : Int)
          · rw [if_pos c5] at H
            have c5b0 : decide (x8_1 < (a0.size : Int)) = true := decide_eq_true c5
            clear c5
            by_cases c7 : (bt a0 x8_1) = a1
            · rw [if_pos c7] at H
              have c7b0 : ((bt a0 x8_1) == a1) = true := beq_iff_eq.mpr c7
              have c7b1 : ((bt a0 x8_1) != a1) = false := bne_eq_false_iff_eq.mpr c7
              clear c7
              obtain rfl := Option.some.inj H
              have p6 : 0 ≤ (x8_1 : Int) := of_decide_eq_true (by first | (with_reducible assumption) | assumption)
              have q6 : x8_1 < (a0.size : Int) := of_decide_eq_true (by first | (with_reducible assumption) | assumption)
              have hx6 := bt_at a0 x8_1
              replace p6 := eq_true p6
              replace q6 := eq_true q6
              go_wp2
              go_ret
              exact ⟨by first | rfl | (simp; done) | (simp [*]; done), by repeat (first | exact Drawn0.refl _ | apply Drawn0.step)⟩
            · rw [if_neg c7] at H
              have c7b0 : ((bt a0 x8_1) == a1) = false := beq_eq_false_iff_ne.mpr c7
              have c7b1 : ((bt a0 x8_1) != a1) = true := bne_iff_ne.mpr c7
              have H' := Aside0.mk H
              clear H
              have p6 : 0 ≤ (x8_1 : Int) := of_decide_eq_true (by first | (with_reducible assumption) | assumption)
              have q6 : x8_1 < (a0.size : Int) := of_decide_eq_true (by first | (with_reducible assumption) | assumption)
              have hx6 := bt_at a0 x8_1
              replace p6 := eq_true p6
              replace q6 := eq_true q6
              go_wp2
              go_roundg k1
              case measure => have := HK1.out; omega
              case rel => exact ⟨(wrap64 (x8_1 + 1)), (by first | rfl | (simp; done) | (simp [*]; done)), H', ⟨by have := HK1.out; omega⟩, by repeat (first | exact Drawn0.refl _ | apply Drawn0.step)⟩
          · rw [if_neg c5] at H
            exact absurd H (by simp)
        · rw [if_neg c4] at H
          exact absurd H (by simp)
      · rw [if_neg c3] at H
        have c3b0 : decide (x8_1 < (a0.size : Int)) = false := decide_eq_false c3
        clear c3
        obtain rfl := Option.some.inj H
        go_wp2
        go_ret
        exact ⟨by first | rfl | (simp; done) | (simp [*]; done), by repeat (first | exact Drawn0.refl _ | apply Drawn0.step)⟩

/-! ### spec_turnCase: function 28 -/
def spec_turnCase.j0 : Nat → Int → Bool → Bool → Option (Int)
  | 0, _, _, _ => none
  | k + 1, x0, x1, x5 => if x5 = true then (some ((x0 - 32) % 256)) else (if x1 = true then (some x0) else ((spec_upper.f x0).bind fun t119 => (if t119 = true then (some ((x0 + 32) % 256)) else (some x0))))
def spec_turnCase.f (k : Nat) (a0 : Int) (a1 : Bool) : Option (Int) := if a1 = true then ((spec_lower.f a0).bind fun t118 => (spec_turnCase.j0 k a0 a1 t118)) else (spec_turnCase.j0 k a0 a1 false)
theorem spec_turnCase.mono_l : ∀ k, (∀ y0 y1 y2, LeO (spec_turnCase.j0 k y0 y1 y2) (spec_turnCase.j0 (k + 1) y0 y1 y2))
  | 0 => fun _ _ _ r h => by simp [spec_turnCase.j0] at h
  | k + 1 => by
    have ih0 := spec_turnCase.mono_l k
    · intro y0 y1 y2
      unfold spec_turnCase.j0
      repeat' first
      | (with_reducible exact ih0 _ _ _)
      | (with_reducible exact LeO.refl _)
      | (with_reducible exact LeO.none _)
      | (with_reducible refine LeO.ite ?_ ?_)
      | (with_reducible refine LeO.bind ?_ (fun _ => ?_))
      | exact ih0 _ _ _
      | exact LeO.none _
      | refine LeO.ite ?_ ?_
      | refine LeO.bind ?_ (fun _ => ?_)
theorem spec_turnCase.mono : ∀ a0 a1 k, LeO (spec_turnCase.f k a0 a1) (spec_turnCase.f (k + 1) a0 a1) := by
  intro a0 a1 k
  have ih0 := spec_turnCase.mono_l k
  unfold spec_turnCase.f
  repeat' first
      | (with_reducible exact ih0 _ _ _)
      | (with_reducible exact LeO.refl _)
      | (with_reducible exact LeO.none _)
      | (with_reducible refine LeO.ite ?_ ?_)
      | (with_reducible refine LeO.bind ?_ (fun _ => ?_))
      | exact ih0 _ _ _
      | exact LeO.none _
      | refine LeO.ite ?_ ?_
      | refine LeO.bind ?_ (fun _ => ?_)
set_option maxHeartbeats 8000000 in
set_option maxRecDepth 100000 in
theorem spec_turnCase.calls (k : Nat) (a0 : Int) (a1 : Bool) (r : Int) (w : World) (h : spec_turnCase.f k a0 a1 = some r) :
    Calls Tryd.prog 28 #[.int .u8 a0, .bool a1] w fun e w' => e = .returned (.int .u8 r) ∧ Drawn0 w w' := by
  have H : (if a1 = true then ((spec_lower.f a0).bind fun t118 => (spec_turnCase.j0 k a0 a1 t118)) else (spec_turnCase.j0 k a0 a1 false)) = some r := h
  clear h
  have HC3 := Aside0.mk H
  clear H
  go_enter Tryd.func28, Tryd.ntmps28
  go_upto_region 1 with (fail)
  go_cut [5] (fun v5 wc => ∃ (kq : Nat) (x5_2 : Bool), v5 = .bool x5_2 ∧ Aside0 (spec_turnCase.j0 kq a0 a1 x5_2 = some r) ∧ Aside0 (kq ≤ k) ∧ Drawn0 w wc)
  case first =>
    have H := HC3.out
    clear HC3
    by_cases c4 : a1 = true
    · subst c4
      have H1 : ((spec_lower.f a0).bind fun t118 => (spec_turnCase.j0 k a0 true t118)) = some r := by rw [if_pos rfl] at H; exact H
      clear H
      have H := H1
      clear H1
      replace H := Option.bind_eq_some_iff.mp H
      obtain ⟨t118, A50, H⟩ := H
      replace H : (spec_turnCase.j0 k a0 true t118) = some r := H
      have A5 := Aside0.mk A50
      clear A50
      have H' := Aside0.mk H
      clear H
      go_wp2_with (first | (go_at_call 23; (with_reducible refine (spec_lower.calls a0 t118 _ A5.out).mono ?_); rintro e w' ⟨rfl, ⟨nd, rfl⟩⟩))
      go_meet
      case rel => exact ⟨_, (t118), (by first | rfl | (simp; done) | (simp [*]; done)), H', ⟨by first | omega | exact Nat.le_refl _⟩, by repeat (first | exact Drawn0.refl _ | apply Drawn0.step)⟩
    · replace c4 := Bool.eq_false_iff.mpr c4
      subst c4
      have H1 : (spec_turnCase.j0 k a0 false false) = some r := by rw [if_neg (show ¬ (false = true) by decide)] at H; exact H
      clear H
      have H := H1
      clear H1
      have H' := Aside0.mk H
      clear H
      go_wp2
      go_meet
      case rel => exact ⟨_, (false), (by first | rfl | (simp; done) | (simp [*]; done)), H', ⟨by first | omega | exact Nat.le_refl _⟩, by repeat (first | exact Drawn0.refl _ | apply Drawn0.step)⟩
  case rest =>
    clear HC3
    try clear c2
    try clear p2
    try clear c4
    obtain ⟨kq, x5_2, rfl, HA, HJ2, ⟨mc2, rfl⟩⟩ := hcut
    cases kq with
    | zero => exact absurd HA.out (by simp [spec_turnCase.j0])
    | succ kj2 =>
      have H := HA.out
      clear HA
      simp only [spec_turnCase.j0] at H
      by_cases c6 : x5_2 = true
      · subst c6
        have H1 : (some ((a0 - 32) % 256)) = some r := by rw [if_pos rfl] at H; exact H
        clear H
        have H := H1
        clear H1
        obtain rfl := Option.some.inj H
        go_wp2
        go_ret
        exact ⟨by first | rfl | (simp; done) | (simp [*]; done), by repeat (first | exact Drawn0.refl _ | apply Drawn0.step)⟩
      · replace c6 := Bool.eq_false_iff.mpr c6
        subst c6
        have H1 : (if a1 = true then (some a0) else ((spec_upper.f a0).bind fun t119 => (if t119 = true then (some ((a0 + 32) % 256)) else (some a0)))) = some r := by rw [if_neg (show ¬ (false = true) by decide)] at H; exact H
        clear H
        have H := H1
        clear H1
        by_cases c7 : a1 = true
        · subst c7
          have H1 : (some a0) = some r := by rw [if_pos rfl] at H; exact H
          clear H
          have H := H1
          clear H1
          obtain rfl := Option.some.inj H
          go_wp2
          go_ret
          exact ⟨by first | rfl | (simp; done) | (simp [*]; done), by repeat (first | exact Drawn0.refl _ | apply Drawn0.step)⟩
        · replace c7 := Bool.eq_false_iff.mpr c7
          subst c7
          have H1 : ((spec_upper.f a0).bind fun t119 => (if t119 = true then (some ((a0 + 32) % 256)) else (some a0))) = some r := by rw [if_neg (show ¬ (false = true) by decide)] at H; exact H
          clear H
          have H := H1
          clear H1
          replace H := Option.bind_eq_some_iff.mp H
          obtain ⟨t119, A80, H⟩ := H
          replace H : (if t119 = true then (some ((a0 + 32) % 256)) else (some a0)) = some r := H
          have A8 := Aside0.mk A80
          clear A80
          by_cases c9 : t119 = true
          · subst c9
            have H1 : (some ((a0 + 32) % 256)) = some r := by rw [if_pos rfl] at H; exact H
            clear H
            have H := H1
            clear H1
            obtain rfl := Option.some.inj H
            go_wp2_with (first | (go_at_call 27; (with_reducible refine (spec_upper.calls a0 true _ A8.out).mono ?_); rintro e w' ⟨rfl, ⟨nd, rfl⟩⟩))
            go_ret
            exact ⟨by first | rfl | (simp; done) | (simp [*]; done), by repeat (first | exact Drawn0.refl _ | apply Drawn0.step)⟩
          · replace c9 := Bool.eq_false_iff.mpr c9
            subst c9
            have H1 : (some a0) = some r := by rw [if_neg (show ¬ (false = true) by decide)] at H; exact H
            clear H
            have H := H1
            clear H1
            obtain rfl := Option.some.inj H
            go_wp2_with (first | (go_at_call 27; (with_reducible refine (spec_upper.calls a0 false _ A8.out).mono ?_); rintro e w' ⟨rfl, ⟨nd, rfl⟩⟩))
            go_ret
            exact ⟨by first | rfl | (simp; done) | (simp [*]; done), by repeat (first | exact Drawn0.refl _ | apply Drawn0.step)⟩

end Go.Proofs.YtpbehdlgmpmkaaaDoor.PFnDelimitedSays
