-- PRINTED BY print.sh 35421559b90ae4d0a3588c463048766b98c2df88dd9212a6774a882060cdf62d: not written by this session
import Derived.Test.YtcjfcjlendibpaaDoorPFnWordsSaysx0
import Derived.Test.YtcjfcjlendibpaaDoorPFnWordsSaysx3
namespace Go.Proofs.YtcjfcjlendibpaaDoor.PFnWordsSays
open Go.RowKit Go.Proofs.YtcjfcjlendibpaaDoorW.PrintWords Go.Proofs.YtcjfcjlendibpaaDoorW.PrintLast Go.Proofs.YtcjfcjlendibpaaDoorW.PrintMore
attribute [local go_sem] max2_int min2_int max_two min_two max_three min_three max_four min_four   -- for this text's walks alone
set_option linter.unusedVariables false
set_option linter.unusedSimpArgs false

/-! ### spec_assigns: function 35 -/
def spec_assigns.l0 : Nat → ByteArray → Int → Option (Bool)
  | 0, _, _ => none
  | k + 1, x0, x3 => if x3 < (x0.size : Int) then (if 0 ≤ x3 then ((spec_lower.f (bt x0 x3)).bind fun t116 => (if t116 = true then (spec_assigns.l0 k x0 (wrap64 (x3 + 1))) else ((spec_upper.f (bt x0 x3)).bind fun t117 => (if t117 = true then (spec_assigns.l0 k x0 (wrap64 (x3 + 1))) else (if (bt x0 x3) = 95 then (spec_assigns.l0 k x0 (wrap64 (x3 + 1))) else (if x3 > 0 then ((spec_digit.f (bt x0 x3)).bind fun t118 => (if t118 = true then (spec_assigns.l0 k x0 (wrap64 (x3 + 1))) else (some ((bt x0 x3) == 61)))) else (some false))))))) else (none)) else (if x3 > 0 then (some false) else (some false))
def spec_assigns.f (k : Nat) (a0 : ByteArray) : Option (Bool) := spec_assigns.l0 k a0 0
theorem spec_assigns.mono_l : ∀ k, (∀ y0 y1, LeO (spec_assigns.l0 k y0 y1) (spec_assigns.l0 (k + 1) y0 y1))
  | 0 => fun _ _ r h => by simp [spec_assigns.l0] at h
  | k + 1 => by
    have ih0 := spec_assigns.mono_l k
    · intro y0 y1
      unfold spec_assigns.l0
      repeat' first
      | (with_reducible exact ih0 _ _)
      | (with_reducible exact LeO.refl _)
      | (with_reducible exact LeO.none _)
      | (with_reducible refine LeO.ite ?_ ?_)
      | (with_reducible refine LeO.bind ?_ (fun _ => ?_))
      | exact ih0 _ _
      | exact LeO.none _
      | refine LeO.ite ?_ ?_
      | refine LeO.bind ?_ (fun _ => ?_)
theorem spec_assigns.mono : ∀ a0 k, LeO (spec_assigns.f k a0) (spec_assigns.f (k + 1) a0) := by
  intro a0 k
  have ih0 := spec_assigns.mono_l k
  unfold spec_assigns.f
  repeat' first
      | (with_reducible exact ih0 _ _)
      | (with_reducible exact LeO.refl _)
      | (with_reducible exact LeO.none _)
      | (with_reducible refine LeO.ite ?_ ?_)
      | (with_reducible refine LeO.bind ?_ (fun _ => ?_))
      | exact ih0 _ _
      | exact LeO.none _
      | refine LeO.ite ?_ ?_
      | refine LeO.bind ?_ (fun _ => ?_)
set_option maxHeartbeats 8000000 in
set_option maxRecDepth 100000 in
theorem spec_assigns.calls (k : Nat) (a0 : ByteArray) (r : Bool) (w : World) (h : spec_assigns.f k a0 = some r) :
    Calls Tryd.prog 35 #[.string a0] w fun e w' => e = .returned (.bool r) ∧ Drawn0 w w' := by
  have H : (spec_assigns.l0 k a0 0) = some r := h
  clear h
  have H' := Aside0.mk H
  clear H
  go_enter Tryd.func35, Tryd.ntmps35
  go_wp2
  go_loopg [3] k (fun kq v3 w' => ∃ (x3_1 : Int), v3 = .int .i64 x3_1 ∧ Aside0 (spec_assigns.l0 kq a0 x3_1 = some r) ∧ Aside0 (kq ≤ k) ∧ Drawn0 w w')
  case atStart => exact ⟨(0), (by first | rfl | (simp; done) | (simp [*]; done)), H', ⟨Nat.le_refl _⟩, by repeat (first | exact Drawn0.refl _ | apply Drawn0.step)⟩
  case round =>
    clear H'
    obtain ⟨x3_1, rfl, HA, HK1, ⟨m1, rfl⟩⟩ := hrel
    cases gk with
    | zero => exact absurd HA.out (by simp [spec_assigns.l0])
    | succ k1 =>
      have H := HA.out
      clear HA
      simp only [spec_assigns.l0] at H
      by_cases c2 : x3_1 < (a0.size : Int)
      · rw [if_pos c2] at H
        have c2b0 : decide (x3_1 < (a0.size : Int)) = true := decide_eq_true c2
        clear c2
        by_cases c3 : 0 ≤ x3_1
        · rw [if_pos c3] at H
          have c3b0 : decide (0 ≤ x3_1) = true := decide_eq_true c3
          clear c3
          replace H := Option.bind_eq_some_iff.mp H
          obtain ⟨t116, A50, H⟩ := H
          replace H : (if t116 = true then (spec_assigns.l0 k1 a0 (wrap64 (x3_1 + 1))) else ((spec_upper.f (bt a0 x3_1)).bind fun t117 => (if t117 = true then (spec_assigns.l0 k1 a0 (wrap64 (x3_1 + 1))) else (if (bt a0 x3_1) = 95 then (spec_assigns.l0 k1 a0 (wrap64 (x3_1 + 1))) else (if x3_1 > 0 then ((spec_digit.f (bt a0 x3_1)).bind fun t118 => (if t118 = true then (spec_assigns.l0 k1 a0 (wrap64 (x3_1 + 1))) else (some ((bt a0 x3_1) == 61)))) else (some false)))))) = some r := H
          have A5 := Aside0.mk A50
          clear A50
          by_cases c6 : t116 = true
          · subst c6
            have H1 : (spec_assigns.l0 k1 a0 (wrap64 (x3_1 + 1))) = some r := by rw [if_pos rfl] at H; exact H
            clear H
            have H := H1
            clear H1
            have H' := Aside0.mk H
            clear H
            have p4 : 0 ≤ (x3_1 : Int) := of_decide_eq_true (by first | (with_reducible assumption) | assumption)
            have q4 : x3_1 < (a0.size : Int) := of_decide_eq_true (by first | (with_reducible assumption) | assumption)
            have hx4 := bt_at a0 x3_1
            replace p4 := eq_true p4
            replace q4 := eq_true q4
            go_wp2_with (first | (go_at_call 44; (with_reducible refine (spec_lower.calls (bt a0 x3_1) true _ A5.out).mono ?_); rintro e w' ⟨rfl, ⟨nd, rfl⟩⟩))
            go_roundg k1
            case measure => have := HK1.out; omega
            case rel => exact ⟨(wrap64 (x3_1 + 1)), (by first | rfl | (simp; done) | (simp [*]; done)), H', ⟨by have := HK1.out; omega⟩, by repeat (first | exact Drawn0.refl _ | apply Drawn0.step)⟩
          · replace c6 := Bool.eq_false_iff.mpr c6
            subst c6
            have H1 : ((spec_upper.f (bt a0 x3_1)).bind fun t117 => (if t117 = true then (spec_assigns.l0 k1 a0 (wrap64 (x3_1 + 1))) else (if (bt a0 x3_1) = 95 then (spec_assigns.l0 k1 a0 (wrap64 (x3_1 + 1))) else (if x3_1 > 0 then ((spec_digit.f (bt a0 x3_1)).bind fun t118 => (if t118 = true then (spec_assigns.l0 k1 a0 (wrap64 (x3_1 + 1))) else (some ((bt a0 x3_1) == 61)))) else (some false))))) = some r := by rw [if_neg (show ¬ (false = true) by decide)] at H; exact H
            clear H
            have H := H1
            clear H1
            replace H := Option.bind_eq_some_iff.mp H
            obtain ⟨t117, A80, H⟩ := H
            replace H : (if t117 = true then (spec_assigns.l0 k1 a0 (wrap64 (x3_1 + 1))) else (if (bt a0 x3_1) = 95 then (spec_assigns.l0 k1 a0 (wrap64 (x3_1 + 1))) else (if x3_1 > 0 then ((spec_digit.f (bt a0 x3_1)).bind fun t118 => (if t118 = true then (spec_assigns.l0 k1 a0 (wrap64 (x3_1 + 1))) else (some ((bt a0 x3_1) == 61)))) else (some false)))) = some r := H
            have A8 := Aside0.mk A80
            clear A80
            by_cases c9 : t117 = true
            · subst c9
              have H1 : (spec_assigns.l0 k1 a0 (wrap64 (x3_1 + 1))) = some r := by rw [if_pos rfl] at H; exact H
              clear H
              have H := H1
              clear H1
              have H' := Aside0.mk H
              clear H
              have p4 : 0 ≤ (x3_1 : Int) := of_decide_eq_true (by first | (with_reducible assumption) | assumption)
              have q4 : x3_1 < (a0.size : Int) := of_decide_eq_true (by first | (with_reducible assumption) | assumption)
              have hx4 := bt_at a0 x3_1
              replace p4 := eq_true p4
              replace q4 := eq_true q4
              go_wp2_with (first | (go_at_call 44; (with_reducible refine (spec_lower.calls (bt a0 x3_1) false _ A5.out).mono ?_); rintro e w' ⟨rfl, ⟨nd, rfl⟩⟩; have p7 : 0 ≤ (x3_1 : Int) := of_decide_eq_true (by first | (with_reducible assumption) | assumption); have q7 : x3_1 < (a0.size : Int) := of_decide_eq_true (by first | (with_reducible assumption) | assumption); have hx7 := bt_at a0 x3_1; replace p7 := eq_true p7; replace q7 := eq_true q7) | (go_at_call 45; (with_reducible refine (spec_upper.calls (bt a0 x3_1) true _ A8.out).mono ?_); rintro e w' ⟨rfl, ⟨nd, rfl⟩⟩))
              go_roundg k1
              case measure => have := HK1.out; omega
              case rel => exact ⟨(wrap64 (x3_1 + 1)), (by first | rfl | (simp; done) | (simp [*]; done)), H', ⟨by have := HK1.out; omega⟩, by repeat (first | exact Drawn0.refl _ | apply Drawn0.step)⟩
            · replace c9 := Bool.eq_false_iff.mpr c9
              subst c9
              have H1 : (if (bt a0 x3_1) = 95 then (spec_assigns.l0 k1 a0 (wrap64 (x3_1 + 1))) else (if x3_1 > 0 then ((spec_digit.f (bt a0 x3_1)).bind fun t118 => (if t118 = true then (spec_assigns.l0 k1 a0 (wrap64 (x3_1 + 1))) else (some ((bt a0 x3_1) == 61)))) else (some false))) = some r := by rw [if_neg (show ¬ (false = true) by decide)] at H; exact H
              clear H
              have H := H1
              clear H1
              by_cases c11 : (bt a0 x3_1) = 95
              · rw [if_pos c11] at H
                have c11b0 : ((bt a0 x3_1) == 95) = true := beq_iff_eq.mpr c11
                have c11b1 : ((bt a0 x3_1) != 95) = false := bne_eq_false_iff_eq.mpr c11
                clear c11
                have H' := Aside0.mk H
                clear H
                have p4 : 0 ≤ (x3_1 : Int) := of_decide_eq_true (by first | (with_reducible assumption) | assumption)
                have q4 : x3_1 < (a0.size : Int) := of_decide_eq_true (by first | (with_reducible assumption) | assumption)
                have hx4 := bt_at a0 x3_1
                replace p4 := eq_true p4
                replace q4 := eq_true q4
                go_wp2_with (first | (go_at_call 44; (with_reducible refine (spec_lower.calls (bt a0 x3_1) false _ A5.out).mono ?_); rintro e w' ⟨rfl, ⟨nd, rfl⟩⟩; have p7 : 0 ≤ (x3_1 : Int) := of_decide_eq_true (by first | (with_reducible assumption) | assumption); have q7 : x3_1 < (a0.size : Int) := of_decide_eq_true (by first | (with_reducible assumption) | assumption); have hx7 := bt_at a0 x3_1; replace p7 := eq_true p7; replace q7 := eq_true q7) | (go_at_call 45; (with_reducible refine (spec_upper.calls (bt a0 x3_1) false _ A8.out).mono ?_); rintro e w' ⟨rfl, ⟨nd, rfl⟩⟩; have p10 : 0 ≤ (x3_1 : Int) := of_decide_eq_true (by first | (with_reducible assumption) | assumption); have q10 : x3_1 < (a0.size : Int) := of_decide_eq_true (by first | (with_reducible assumption) | assumption); have hx10 := bt_at a0 x3_1; replace p10 := eq_true p10; replace q10 := eq_true q10))
                go_roundg k1
                case measure => have := HK1.out; omega
                case rel => exact ⟨(wrap64 (x3_1 + 1)), (by first | rfl | (simp; done) | (simp [*]; done)), H', ⟨by have := HK1.out; omega⟩, by repeat (first | exact Drawn0.refl _ | apply Drawn0.step)⟩
              · rw [if_neg c11] at H
                have c11b0 : ((bt a0 x3_1) == 95) = false := beq_eq_false_iff_ne.mpr c11
                have c11b1 : ((bt a0 x3_1) != 95) = true := bne_iff_ne.mpr c11
                by_cases c12 : x3_1 > 0
                · rw [if_pos c12] at H
                  have c12b0 : decide (0 < x3_1) = true := decide_eq_true c12
                  clear c12
                  replace H := Option.bind_eq_some_iff.mp H
                  obtain ⟨t118, A140, H⟩ := H
                  replace H : (if t118 = true then (spec_assigns.l0 k1 a0 (wrap64 (x3_1 + 1))) else (some ((bt a0 x3_1) == 61))) = some r := H
                  have A14 := Aside0.mk A140
                  clear A140
                  by_cases c15 : t118 = true
                  · subst c15
                    have H1 : (spec_assigns.l0 k1 a0 (wrap64 (x3_1 + 1))) = some r := by rw [if_pos rfl] at H; exact H
                    clear H
                    have H := H1
                    clear H1
                    have H' := Aside0.mk H
                    clear H
                    have p4 : 0 ≤ (x3_1 : Int) := of_decide_eq_true (by first | (with_reducible assumption) | assumption)
                    have q4 : x3_1 < (a0.size : Int) := of_decide_eq_true (by first | (with_reducible assumption) | assumption)
                    have hx4 := bt_at a0 x3_1
                    replace p4 := eq_true p4
                    replace q4 := eq_true q4
                    go_wp2_with (first | (go_at_call 44; (with_reducible refine (spec_lower.calls (bt a0 x3_1) false _ A5.out).mono ?_); rintro e w' ⟨rfl, ⟨nd, rfl⟩⟩; have p7 : 0 ≤ (x3_1 : Int) := of_decide_eq_true (by first | (with_reducible assumption) | assumption); have q7 : x3_1 < (a0.size : Int) := of_decide_eq_true (by first | (with_reducible assumption) | assumption); have hx7 := bt_at a0 x3_1; replace p7 := eq_true p7; replace q7 := eq_true q7) | (go_at_call 45; (with_reducible refine (spec_upper.calls (bt a0 x3_1) false _ A8.out).mono ?_); rintro e w' ⟨rfl, ⟨nd, rfl⟩⟩; have p10 : 0 ≤ (x3_1 : Int) := of_decide_eq_true (by first | (with_reducible assumption) | assumption); have q10 : x3_1 < (a0.size : Int) := of_decide_eq_true (by first | (with_reducible assumption) | assumption); have hx10 := bt_at a0 x3_1; replace p10 := eq_true p10; replace q10 := eq_true q10; have p13 : 0 ≤ (x3_1 : Int) := of_decide_eq_true (by first | (with_reducible assumption) | assumption); have q13 : x3_1 < (a0.size : Int) := of_decide_eq_true (by first | (with_reducible assumption) | assumption); have hx13 := bt_at a0 x3_1; replace p13 := eq_true p13; replace q13 := eq_true q13) | (go_at_call 34; (with_reducible refine (spec_digit.calls (bt a0 x3_1) true _ A14.out).mono ?_); rintro e w' ⟨rfl, ⟨nd, rfl⟩⟩))
                    go_roundg k1
                    case measure => have := HK1.out; omega
                    case rel => exact ⟨(wrap64 (x3_1 + 1)), (by first | rfl | (simp; done) | (simp [*]; done)), H', ⟨by have := HK1.out; omega⟩, by repeat (first | exact Drawn0.refl _ | apply Drawn0.step)⟩
                  · replace c15 := Bool.eq_false_iff.mpr c15
                    subst c15
                    have H1 : (some ((bt a0 x3_1) == 61)) = some r := by rw [if_neg (show ¬ (false = true) by decide)] at H; exact H
                    clear H
                    have H := H1
                    clear H1
                    obtain rfl := Option.some.inj H
                    have p4 : 0 ≤ (x3_1 : Int) := of_decide_eq_true (by first | (with_reducible assumption) | assumption)
                    have q4 : x3_1 < (a0.size : Int) := of_decide_eq_true (by first | (with_reducible assumption) | assumption)
                    have hx4 := bt_at a0 x3_1
                    replace p4 := eq_true p4
                    replace q4 := eq_true q4
                    go_wp2_with (first | (go_at_call 44; (with_reducible refine (spec_lower.calls (bt a0 x3_1) false _ A5.out).mono ?_); rintro e w' ⟨rfl, ⟨nd, rfl⟩⟩; have p7 : 0 ≤ (x3_1 : Int) := of_decide_eq_true (by first | (with_reducible assumption) | assumption); have q7 : x3_1 < (a0.size : Int) := of_decide_eq_true (by first | (with_reducible assumption) | assumption); have hx7 := bt_at a0 x3_1; replace p7 := eq_true p7; replace q7 := eq_true q7) | (go_at_call 45; (with_reducible refine (spec_upper.calls (bt a0 x3_1) false _ A8.out).mono ?_); rintro e w' ⟨rfl, ⟨nd, rfl⟩⟩; have p10 : 0 ≤ (x3_1 : Int) := of_decide_eq_true (by first | (with_reducible assumption) | assumption); have q10 : x3_1 < (a0.size : Int) := of_decide_eq_true (by first | (with_reducible assumption) | assumption); have hx10 := bt_at a0 x3_1; replace p10 := eq_true p10; replace q10 := eq_true q10; have p13 : 0 ≤ (x3_1 : Int) := of_decide_eq_true (by first | (with_reducible assumption) | assumption); have q13 : x3_1 < (a0.size : Int) := of_decide_eq_true (by first | (with_reducible assumption) | assumption); have hx13 := bt_at a0 x3_1; replace p13 := eq_true p13; replace q13 := eq_true q13) | (go_at_call 34; (with_reducible refine (spec_digit.calls (bt a0 x3_1) false _ A14.out).mono ?_); rintro e w' ⟨rfl, ⟨nd, rfl⟩⟩; have p16 : 0 ≤ (x3_1 : Int) := of_decide_eq_true (by first | (with_reducible assumption) | assumption); have q16 : x3_1 < (a0.size : Int) := of_decide_eq_true (by first | (with_reducible assumption) | assumption); have hx16 := bt_at a0 x3_1; replace p16 := eq_true p16; replace q16 := eq_true q16))
                    go_ret
                    exact ⟨by first | rfl | (simp; done) | (simp [*]; done), by repeat (first | exact Drawn0.refl _ | apply Drawn0.step)⟩
                · rw [if_neg c12] at H
                  have c12b0 : decide (0 < x3_1) = false := decide_eq_false c12
                  clear c12
                  obtain rfl := Option.some.inj H
                  have p4 : 0 ≤ (x3_1 : Int) := of_decide_eq_true (by first | (with_reducible assumption) | assumption)
                  have q4 : x3_1 < (a0.size : Int) := of_decide_eq_true (by first | (with_reducible assumption) | assumption)
                  have hx4 := bt_at a0 x3_1
                  replace p4 := eq_true p4
                  replace q4 := eq_true q4
                  go_wp2_with (first | (go_at_call 44; (with_reducible refine (spec_lower.calls (bt a0 x3_1) false _ A5.out).mono ?_); rintro e w' ⟨rfl, ⟨nd, rfl⟩⟩; have p7 : 0 ≤ (x3_1 : Int) := of_decide_eq_true (by first | (with_reducible assumption) | assumption); have q7 : x3_1 < (a0.size : Int) := of_decide_eq_true (by first | (with_reducible assumption) | assumption); have hx7 := bt_at a0 x3_1; replace p7 := eq_true p7; replace q7 := eq_true q7) | (go_at_call 45; (with_reducible refine (spec_upper.calls (bt a0 x3_1) false _ A8.out).mono ?_); rintro e w' ⟨rfl, ⟨nd, rfl⟩⟩; have p10 : 0 ≤ (x3_1 : Int) := of_decide_eq_true (by first | (with_reducible assumption) | assumption); have q10 : x3_1 < (a0.size : Int) := of_decide_eq_true (by first | (with_reducible assumption) | assumption); have hx10 := bt_at a0 x3_1; replace p10 := eq_true p10; replace q10 := eq_true q10))
                  go_ret
                  exact ⟨by first | rfl | (simp; done) | (simp [*]; done), by repeat (first | exact Drawn0.refl _ | apply Drawn0.step)⟩
        · rw [if_neg c3] at H
          exact absurd H (by simp)
      · rw [if_neg c2] at H
        have c2b0 : decide (x3_1 < (a0.size : Int)) = false := decide_eq_false c2
        clear c2
        by_cases c17 : x3_1 > 0
        · rw [if_pos c17] at H
          have c17b0 : decide (0 < x3_1) = true := decide_eq_true c17
          clear c17
          obtain rfl := Option.some.inj H
          go_wp2
          go_ret
          exact ⟨by first | rfl | (simp; done) | (simp [*]; done), by repeat (first | exact Drawn0.refl _ | apply Drawn0.step)⟩
        · rw [if_neg c17] at H
          have c17b0 : decide (0 < x3_1) = false := decide_eq_false c17
          clear c17
          obtain rfl := Option.some.inj H
          go_wp2
          go_ret
          exact ⟨by first | rfl | (simp; done) | (simp [*]; done), by repeat (first | exact Drawn0.refl _ | apply Drawn0.step)⟩

-- NOT PRINTED: function 24 (spec_WordsEnvs)

-- NOT PRINTED: function 8 (laws_FnWordsSays)

end Go.Proofs.YtcjfcjlendibpaaDoor.PFnWordsSays
