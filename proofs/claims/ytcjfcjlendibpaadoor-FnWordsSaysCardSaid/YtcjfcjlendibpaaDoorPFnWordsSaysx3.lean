-- PRINTED BY print.sh 35421559b90ae4d0a3588c463048766b98c2df88dd9212a6774a882060cdf62d: not written by this session
import Derived.Test.YtcjfcjlendibpaaDoorPFnWordsSaysx0
import Derived.Test.YtcjfcjlendibpaaDoorPFnWordsSaysx2
namespace Go.Proofs.YtcjfcjlendibpaaDoor.PFnWordsSays
open Go.RowKit Go.Proofs.YtcjfcjlendibpaaDoorW.PrintWords Go.Proofs.YtcjfcjlendibpaaDoorW.PrintLast Go.Proofs.YtcjfcjlendibpaaDoorW.PrintMore
attribute [local go_sem] max2_int min2_int max_two min_two max_three min_three max_four min_four   -- for this text's walks alone
set_option linter.unusedVariables false
set_option linter.unusedSimpArgs false

/-! ### spec_wellFormed: function 43 -/
def spec_wellFormed.l0 : Nat → ByteArray → Int → Option (Bool)
  | 0, _, _ => none
  | k + 1, x0, x3 => if x3 < (x0.size : Int) then (if 0 ≤ x3 then (if x3 ≤ (x0.size : Int) then ((spec_size.f k (x0.extract (x3 : Int).toNat x0.size)).bind fun t109 => (if t109 = 0 then (some false) else (spec_wellFormed.l0 k x0 (wrap64 (x3 + t109))))) else (none)) else (none)) else (some true)
def spec_wellFormed.f (k : Nat) (a0 : ByteArray) : Option (Bool) := spec_wellFormed.l0 k a0 0
theorem spec_wellFormed.mono_l : ∀ k, (∀ y0 y1, LeO (spec_wellFormed.l0 k y0 y1) (spec_wellFormed.l0 (k + 1) y0 y1))
  | 0 => fun _ _ r h => by simp [spec_wellFormed.l0] at h
  | k + 1 => by
    have ih0 := spec_wellFormed.mono_l k
    · intro y0 y1
      unfold spec_wellFormed.l0
      repeat' first
      | (with_reducible exact ih0 _ _)
      | (with_reducible exact spec_size.mono _ _)
      | (with_reducible exact LeO.refl _)
      | (with_reducible exact LeO.none _)
      | (with_reducible refine LeO.ite ?_ ?_)
      | (with_reducible refine LeO.bind ?_ (fun _ => ?_))
      | exact ih0 _ _
      | exact spec_size.mono _ _
      | exact LeO.none _
      | refine LeO.ite ?_ ?_
      | refine LeO.bind ?_ (fun _ => ?_)
theorem spec_wellFormed.mono : ∀ a0 k, LeO (spec_wellFormed.f k a0) (spec_wellFormed.f (k + 1) a0) := by
  intro a0 k
  have ih0 := spec_wellFormed.mono_l k
  unfold spec_wellFormed.f
  repeat' first
      | (with_reducible exact ih0 _ _)
      | (with_reducible exact spec_size.mono _ _)
      | (with_reducible exact LeO.refl _)
      | (with_reducible exact LeO.none _)
      | (with_reducible refine LeO.ite ?_ ?_)
      | (with_reducible refine LeO.bind ?_ (fun _ => ?_))
      | exact ih0 _ _
      | exact spec_size.mono _ _
      | exact LeO.none _
      | refine LeO.ite ?_ ?_
      | refine LeO.bind ?_ (fun _ => ?_)
set_option maxHeartbeats 8000000 in
set_option maxRecDepth 100000 in
theorem spec_wellFormed.calls (k : Nat) (a0 : ByteArray) (r : Bool) (w : World) (h : spec_wellFormed.f k a0 = some r) :
    Calls Tryd.prog 43 #[.string a0] w fun e w' => e = .returned (.bool r) ∧ Drawn0 w w' := by
  have H : (spec_wellFormed.l0 k a0 0) = some r := h
  clear h
  have H' := Aside0.mk H
  clear H
  go_enter Tryd.func43, Tryd.ntmps43
  go_wp2
  go_loopg [3] k (fun kq v3 w' => ∃ (x3_1 : Int), v3 = .int .i64 x3_1 ∧ Aside0 (spec_wellFormed.l0 kq a0 x3_1 = some r) ∧ Aside0 (kq ≤ k) ∧ Drawn0 w w')
  case atStart => exact ⟨(0), (by first | rfl | (simp; done) | (simp [*]; done)), H', ⟨Nat.le_refl _⟩, by repeat (first | exact Drawn0.refl _ | apply Drawn0.step)⟩
  case round =>
    clear H'
    obtain ⟨x3_1, rfl, HA, HK1, ⟨m1, rfl⟩⟩ := hrel
    cases gk with
    | zero => exact absurd HA.out (by simp [spec_wellFormed.l0])
    | succ k1 =>
      have H := HA.out
      clear HA
      simp only [spec_wellFormed.l0] at H
      by_cases c2 : x3_1 < (a0.size : Int)
      · rw [if_pos c2] at H
        have c2b0 : decide (x3_1 < (a0.size : Int)) = true := decide_eq_true c2
        clear c2
        by_cases c3 : 0 ≤ x3_1
        · rw [if_pos c3] at H
          have c3b0 := eq_true c3
          have c3b1 : decide (0 ≤ x3_1) = true := decide_eq_true c3
          clear c3
          by_cases c4 : x3_1 ≤ (a0.size : Int)
          · rw [if_pos c4] at H
            have c4b0 := eq_true c4
            have c4b1 : decide (x3_1 ≤ (a0.size : Int)) = true := decide_eq_true c4
            clear c4
            replace H := Option.bind_eq_some_iff.mp H
            obtain ⟨t109, A50, H⟩ := H
            replace H : (if t109 = 0 then (some false) else (spec_wellFormed.l0 k1 a0 (wrap64 (x3_1 + t109)))) = some r := H
            have A5 := Aside0.mk A50
            clear A50
            by_cases c6 : t109 = 0
            · rw [if_pos c6] at H
              have c6b0 : (t109 == 0) = true := beq_iff_eq.mpr c6
              have c6b1 : (t109 != 0) = false := bne_eq_false_iff_eq.mpr c6
              clear c6
              obtain rfl := Option.some.inj H
              go_wp2_with (first | ((with_reducible refine gate_callee (f := 52) rfl ?_); refine goesL_ (some 12) rfl rfl Tryd.func52 (by kernel_rfl) rfl #[.string (a0.extract (x3_1 : Int).toNat a0.size)] rfl (by (try simp only [List.map_toArray, List.map_cons, List.map_nil]); first | done | rfl | (simp only [List.length_drop, List.length_take]; rfl)) ?_; (with_reducible refine (spec_size.calls k1 (a0.extract (x3_1 : Int).toNat a0.size) t109 _ A5.out).mono ?_); rintro e w' ⟨rfl, ⟨nd, rfl⟩⟩; refine ⟨_, rfl, ?_⟩))
              go_ret
              exact ⟨by first | rfl | (simp; done) | (simp [*]; done), by repeat (first | exact Drawn0.refl _ | apply Drawn0.step)⟩
            · rw [if_neg c6] at H
              have c6b0 : (t109 == 0) = false := beq_eq_false_iff_ne.mpr c6
              have c6b1 : (t109 != 0) = true := bne_iff_ne.mpr c6
              have H' := Aside0.mk H
              clear H
              go_wp2_with (first | ((with_reducible refine gate_callee (f := 52) rfl ?_); refine goesL_ (some 12) rfl rfl Tryd.func52 (by kernel_rfl) rfl #[.string (a0.extract (x3_1 : Int).toNat a0.size)] rfl (by (try simp only [List.map_toArray, List.map_cons, List.map_nil]); first | done | rfl | (simp only [List.length_drop, List.length_take]; rfl)) ?_; (with_reducible refine (spec_size.calls k1 (a0.extract (x3_1 : Int).toNat a0.size) t109 _ A5.out).mono ?_); rintro e w' ⟨rfl, ⟨nd, rfl⟩⟩; refine ⟨_, rfl, ?_⟩))
              go_roundg k1
              case measure => have := HK1.out; omega
              case rel => exact ⟨(wrap64 (x3_1 + t109)), (by first | rfl | (simp; done) | (simp [*]; done)), H', ⟨by have := HK1.out; omega⟩, by repeat (first | exact Drawn0.refl _ | apply Drawn0.step)⟩
          · rw [if_neg c4] at H
            exact absurd H (by simp)
        · rw [if_neg c3] at H
          exact absurd H (by simp)
      · rw [if_neg c2] at H
        have c2b0 : decide (x3_1 < (a0.size : Int)) = false := decide_eq_false c2
        clear c2
        obtain rfl := Option.some.inj H
        go_wp2
        go_ret
        exact ⟨by first | rfl | (simp; done) | (simp [*]; done), by repeat (first | exact Drawn0.refl _ | apply Drawn0.step)⟩

/-! ### spec_unclear: function 30 -/
mutual
def spec_unclear.l0 : Nat → ByteArray → Bool → Bool → Int → Int → Option (Bool)
  | 0, _, _, _, _, _ => none
  | k + 1, x0, x1, x2, x10, x11 => if x11 < x10 then (if 0 ≤ x11 then (if x11 < (x0.size : Int) then (if (bt x0 x11) = 40 then (spec_unclear.j1 k x0 x1 x2 x10 x11 (bt x0 x11) ((bt x0 x11) == 40)) else (if (bt x0 x11) = 41 then (spec_unclear.j1 k x0 x1 x2 x10 x11 (bt x0 x11) ((bt x0 x11) == 41)) else (if (bt x0 x11) = 96 then (spec_unclear.j1 k x0 x1 x2 x10 x11 (bt x0 x11) ((bt x0 x11) == 96)) else (if (bt x0 x11) = 11 then (spec_unclear.j1 k x0 x1 x2 x10 x11 (bt x0 x11) ((bt x0 x11) == 11)) else (spec_unclear.j1 k x0 x1 x2 x10 x11 (bt x0 x11) ((bt x0 x11) == 12)))))) else (none)) else (none)) else ((spec_wellFormed.f k x0).bind fun t110 => (some (!t110)))
def spec_unclear.j1 : Nat → ByteArray → Bool → Bool → Int → Int → Int → Bool → Option (Bool)
  | 0, _, _, _, _, _, _, _ => none
  | k + 1, x0, x1, x2, x10, x11, x17, x18 => if x18 = true then (some true) else (if x17 = 36 then (if x1 = true then (some true) else (spec_unclear.l0 k x0 x1 x2 x10 (wrap64 (x11 + 1)))) else (if x17 = 35 then (if x2 = true then (some true) else (spec_unclear.l0 k x0 x1 x2 x10 (wrap64 (x11 + 1)))) else (spec_unclear.l0 k x0 x1 x2 x10 (wrap64 (x11 + 1)))))
end
def spec_unclear.f (k : Nat) (a0 : ByteArray) (a1 : Bool) (a2 : Bool) : Option (Bool) := spec_unclear.l0 k a0 a1 a2 (a0.size : Int) 0
theorem spec_unclear.mono_l : ∀ k, (∀ y0 y1 y2 y3 y4, LeO (spec_unclear.l0 k y0 y1 y2 y3 y4) (spec_unclear.l0 (k + 1) y0 y1 y2 y3 y4)) ∧ (∀ y0 y1 y2 y3 y4 y5 y6, LeO (spec_unclear.j1 k y0 y1 y2 y3 y4 y5 y6) (spec_unclear.j1 (k + 1) y0 y1 y2 y3 y4 y5 y6))
  | 0 => ⟨fun _ _ _ _ _ r h => by simp [spec_unclear.l0] at h, fun _ _ _ _ _ _ _ r h => by simp [spec_unclear.j1] at h⟩
  | k + 1 => by
    obtain ⟨ih0, ih1⟩ := spec_unclear.mono_l k
    refine ⟨?_, ?_⟩
    · intro y0 y1 y2 y3 y4
      unfold spec_unclear.l0
      repeat' first
      | (with_reducible exact ih0 _ _ _ _ _)
      | (with_reducible exact ih1 _ _ _ _ _ _ _)
      | (with_reducible exact spec_wellFormed.mono _ _)
      | (with_reducible exact LeO.refl _)
      | (with_reducible exact LeO.none _)
      | (with_reducible refine LeO.ite ?_ ?_)
      | (with_reducible refine LeO.bind ?_ (fun _ => ?_))
      | exact ih0 _ _ _ _ _
      | exact ih1 _ _ _ _ _ _ _
      | exact spec_wellFormed.mono _ _
      | exact LeO.none _
      | refine LeO.ite ?_ ?_
      | refine LeO.bind ?_ (fun _ => ?_)
    · intro y0 y1 y2 y3 y4 y5 y6
      unfold spec_unclear.j1
      repeat' first
      | (with_reducible exact ih0 _ _ _ _ _)
      | (with_reducible exact ih1 _ _ _ _ _ _ _)
      | (with_reducible exact spec_wellFormed.mono _ _)
      | (with_reducible exact LeO.refl _)
      | (with_reducible exact LeO.none _)
      | (with_reducible refine LeO.ite ?_ ?_)
      | (with_reducible refine LeO.bind ?_ (fun _ => ?_))
      | exact ih0 _ _ _ _ _
      | exact ih1 _ _ _ _ _ _ _
      | exact spec_wellFormed.mono _ _
      | exact LeO.none _
      | refine LeO.ite ?_ ?_
      | refine LeO.bind ?_ (fun _ => ?_)
theorem spec_unclear.mono : ∀ a0 a1 a2 k, LeO (spec_unclear.f k a0 a1 a2) (spec_unclear.f (k + 1) a0 a1 a2) := by
  intro a0 a1 a2 k
  obtain ⟨ih0, ih1⟩ := spec_unclear.mono_l k
  unfold spec_unclear.f
  repeat' first
      | (with_reducible exact ih0 _ _ _ _ _)
      | (with_reducible exact ih1 _ _ _ _ _ _ _)
      | (with_reducible exact spec_wellFormed.mono _ _)
      | (with_reducible exact LeO.refl _)
      | (with_reducible exact LeO.none _)
      | (with_reducible refine LeO.ite ?_ ?_)
      | (with_reducible refine LeO.bind ?_ (fun _ => ?_))
      | exact ih0 _ _ _ _ _
      | exact ih1 _ _ _ _ _ _ _
      | exact spec_wellFormed.mono _ _
      | exact LeO.none _
      | refine LeO.ite ?_ ?_
      | refine LeO.bind ?_ (fun _ => ?_)
set_option maxHeartbeats 8000000 in
set_option maxRecDepth 100000 in
theorem spec_unclear.calls (k : Nat) (a0 : ByteArray) (a1 : Bool) (a2 : Bool) (r : Bool) (w : World) (h : spec_unclear.f k a0 a1 a2 = some r) :
    Calls Tryd.prog 30 #[.string a0, .bool a1, .bool a2] w fun e w' => e = .returned (.bool r) ∧ Drawn0 w w' := by
  have H : (spec_unclear.l0 k a0 a1 a2 (a0.size : Int) 0) = some r := h
  clear h
  have H' := Aside0.mk H
  clear H
  go_enter Tryd.func30, Tryd.ntmps30
  go_wp2
  go_loopg [11] k (fun kq v11 w' => ∃ (x11_1 : Int), v11 = .int .i64 x11_1 ∧ Aside0 (spec_unclear.l0 kq a0 a1 a2 (a0.size : Int) x11_1 = some r) ∧ Aside0 (kq ≤ k) ∧ Drawn0 w w')
  case atStart => exact ⟨(0), (by first | rfl | (simp; done) | (simp [*]; done)), H', ⟨Nat.le_refl _⟩, by repeat (first | exact Drawn0.refl _ | apply Drawn0.step)⟩
  case round =>
    clear H'
    try clear p2
    try clear c3
    obtain ⟨x11_1, rfl, HA, HK1, ⟨m1, rfl⟩⟩ := hrel
    cases gk with
    | zero => exact absurd HA.out (by simp [spec_unclear.l0])
    | succ k1 =>
      have H := HA.out
      clear HA
      simp only [spec_unclear.l0] at H
      by_cases c4 : x11_1 < (a0.size : Int)
      · rw [if_pos c4] at H
        have c4b0 : decide (x11_1 < (a0.size : Int)) = true := decide_eq_true c4
        clear c4
        by_cases c5 : 0 ≤ x11_1
        · rw [if_pos c5] at H
          have c5b0 : decide (0 ≤ x11_1) = true := decide_eq_true c5
          clear c5
          by_cases c6 : x11_1 < (a0.size : Int)
          · rw [if_pos c6] at H
            have c6b0 : decide (x11_1 < (a0.size : Int)) = true := decide_eq_true c6
            clear c6
            have HC8 := Aside0.mk H
            clear H
            have p7 : 0 ≤ (x11_1 : Int) := of_decide_eq_true (by first | (with_reducible assumption) | assumption)
            have q7 : x11_1 < (a0.size : Int) := of_decide_eq_true (by first | (with_reducible assumption) | assumption)
            have hx7 := bt_at a0 x11_1
            replace p7 := eq_true p7
            replace q7 := eq_true q7
            go_upto_if 18 with (fail)
            go_cut [18] (fun v18 wc => ∃ (kq : Nat) (x18_7 : Bool), v18 = .bool x18_7 ∧ Aside0 (spec_unclear.j1 kq a0 a1 a2 (a0.size : Int) x11_1 (bt a0 x11_1) x18_7 = some r) ∧ Aside0 (kq ≤ k1) ∧ Drawn0 w wc)
            case first =>
              have H := HC8.out
              clear HC8
              by_cases c9 : (bt a0 x11_1) = 40
              · rw [if_pos c9] at H
                have c9b0 : ((bt a0 x11_1) == 40) = true := beq_iff_eq.mpr c9
                have c9b1 : ((bt a0 x11_1) != 40) = false := bne_eq_false_iff_eq.mpr c9
                clear c9
                (first | rw [c9b0] | (simp only [i64_w, i32_w]; rw [c9b0]) | skip)
                have H' := Aside0.mk H
                clear H
                go_wp2
                go_meet
                case rel => exact ⟨_, (((bt a0 x11_1) == 40)), (by first | rfl | (simp; done) | (simp [*]; done)), H', ⟨by have := HK1.out; first | omega | exact Nat.le_refl _⟩, by repeat (first | exact Drawn0.refl _ | apply Drawn0.step)⟩
              · rw [if_neg c9] at H
                have c9b0 : ((bt a0 x11_1) == 40) = false := beq_eq_false_iff_ne.mpr c9
                have c9b1 : ((bt a0 x11_1) != 40) = true := bne_iff_ne.mpr c9
                (first | rw [c9b0] | (simp only [i64_w, i32_w]; rw [c9b0]) | skip)
                by_cases c10 : (bt a0 x11_1) = 41
                · rw [if_pos c10] at H
                  have c10b0 : ((bt a0 x11_1) == 41) = true := beq_iff_eq.mpr c10
                  have c10b1 : ((bt a0 x11_1) != 41) = false := bne_eq_false_iff_eq.mpr c10
                  clear c10
                  have H' := Aside0.mk H
                  clear H
                  go_wp2
                  go_meet
                  case rel => exact ⟨_, (((bt a0 x11_1) == 41)), (by first | rfl | (simp; done) | (simp [*]; done)), H', ⟨by have := HK1.out; first | omega | exact Nat.le_refl _⟩, by repeat (first | exact Drawn0.refl _ | apply Drawn0.step)⟩
                · rw [if_neg c10] at H
                  have c10b0 : ((bt a0 x11_1) == 41) = false := beq_eq_false_iff_ne.mpr c10
                  have c10b1 : ((bt a0 x11_1) != 41) = true := bne_iff_ne.mpr c10
                  by_cases c11 : (bt a0 x11_1) = 96
                  · rw [if_pos c11] at H
                    have c11b0 : ((bt a0 x11_1) == 96) = true := beq_iff_eq.mpr c11
                    have c11b1 : ((bt a0 x11_1) != 96) = false := bne_eq_false_iff_eq.mpr c11
                    clear c11
                    have H' := Aside0.mk H
                    clear H
                    go_wp2
                    go_meet
                    case rel => exact ⟨_, (((bt a0 x11_1) == 96)), (by first | rfl | (simp; done) | (simp [*]; done)), H', ⟨by have := HK1.out; first | omega | exact Nat.le_refl _⟩, by repeat (first | exact Drawn0.refl _ | apply Drawn0.step)⟩
                  · rw [if_neg c11] at H
                    have c11b0 : ((bt a0 x11_1) == 96) = false := beq_eq_false_iff_ne.mpr c11
                    have c11b1 : ((bt a0 x11_1) != 96) = true := bne_iff_ne.mpr c11
                    by_cases c12 : (bt a0 x11_1) = 11
                    · rw [if_pos c12] at H
                      have c12b0 : ((bt a0 x11_1) == 11) = true := beq_iff_eq.mpr c12
                      have c12b1 : ((bt a0 x11_1) != 11) = false := bne_eq_false_iff_eq.mpr c12
                      clear c12
                      have H' := Aside0.mk H
                      clear H
                      go_wp2
                      go_meet
                      case rel => exact ⟨_, (((bt a0 x11_1) == 11)), (by first | rfl | (simp; done) | (simp [*]; done)), H', ⟨by have := HK1.out; first | omega | exact Nat.le_refl _⟩, by repeat (first | exact Drawn0.refl _ | apply Drawn0.step)⟩
                    · rw [if_neg c12] at H
                      have c12b0 : ((bt a0 x11_1) == 11) = false := beq_eq_false_iff_ne.mpr c12
                      have c12b1 : ((bt a0 x11_1) != 11) = true := bne_iff_ne.mpr c12
                      have H' := Aside0.mk H
                      clear H
                      go_wp2
                      go_meet
                      case rel => exact ⟨_, (((bt a0 x11_1) == 12)), (by first | rfl | (simp; done) | (simp [*]; done)), H', ⟨by have := HK1.out; first | omega | exact Nat.le_refl _⟩, by repeat (first | exact Drawn0.refl _ | apply Drawn0.step)⟩
            case rest =>
              clear HC8
              try clear c1
              try clear p2
              try clear c3
              try clear c4
              try clear c4b0
              try clear c5
              try clear c5b0
              try clear c6
              try clear c6b0
              try clear p7
              try clear q7
              try clear hx7
              try clear c9
              try clear c9b0
              try clear c9b1
              try clear c10
              try clear c10b0
              try clear c10b1
              try clear c11
              try clear c11b0
              try clear c11b1
              try clear c12
              try clear c12b0
              try clear c12b1
              try clear p2
              try clear p7
              try clear q7
              obtain ⟨kq, x18_7, rfl, HA, HJ7, ⟨mc7, rfl⟩⟩ := hcut
              cases kq with
              | zero => exact absurd HA.out (by simp [spec_unclear.j1])
              | succ kj7 =>
                have H := HA.out
                clear HA
                simp only [spec_unclear.j1] at H
                by_cases c13 : x18_7 = true
                · subst c13
                  have H1 : (some true) = some r := by rw [if_pos rfl] at H; exact H
                  clear H
                  have H := H1
                  clear H1
                  obtain rfl := Option.some.inj H
                  go_wp2
                  go_ret
                  exact ⟨by first | rfl | (simp; done) | (simp [*]; done), by repeat (first | exact Drawn0.refl _ | apply Drawn0.step)⟩
                · replace c13 := Bool.eq_false_iff.mpr c13
                  subst c13
                  have H1 : (if (bt a0 x11_1) = 36 then (if a1 = true then (some true) else (spec_unclear.l0 kj7 a0 a1 a2 (a0.size : Int) (wrap64 (x11_1 + 1)))) else (if (bt a0 x11_1) = 35 then (if a2 = true then (some true) else (spec_unclear.l0 kj7 a0 a1 a2 (a0.size : Int) (wrap64 (x11_1 + 1)))) else (spec_unclear.l0 kj7 a0 a1 a2 (a0.size : Int) (wrap64 (x11_1 + 1))))) = some r := by rw [if_neg (show ¬ (false = true) by decide)] at H; exact H
                  clear H
                  have H := H1
                  clear H1
                  by_cases c14 : (bt a0 x11_1) = 36
                  · rw [if_pos c14] at H
                    have c14b0 : ((bt a0 x11_1) == 36) = true := beq_iff_eq.mpr c14
                    have c14b1 : ((bt a0 x11_1) != 36) = false := bne_eq_false_iff_eq.mpr c14
                    clear c14
                    by_cases c15 : a1 = true
                    · subst c15
                      have H1 : (some true) = some r := by rw [if_pos rfl] at H; exact H
                      clear H
                      have H := H1
                      clear H1
                      obtain rfl := Option.some.inj H
                      go_wp2
                      go_ret
                      exact ⟨by first | rfl | (simp; done) | (simp [*]; done), by repeat (first | exact Drawn0.refl _ | apply Drawn0.step)⟩
                    · replace c15 := Bool.eq_false_iff.mpr c15
                      subst c15
                      have H1 : (spec_unclear.l0 kj7 a0 false a2 (a0.size : Int) (wrap64 (x11_1 + 1))) = some r := by rw [if_neg (show ¬ (false = true) by decide)] at H; exact H
                      clear H
                      have H := H1
                      clear H1
                      have H' := Aside0.mk H
                      clear H
                      go_wp2
                      go_roundg kj7
                      case measure => have := HK1.out; have := HJ7.out; omega
                      case rel => exact ⟨(wrap64 (x11_1 + 1)), (by first | rfl | (simp; done) | (simp [*]; done)), H', ⟨by have := HK1.out; have := HJ7.out; omega⟩, by repeat (first | exact Drawn0.refl _ | apply Drawn0.step)⟩
                  · rw [if_neg c14] at H
                    have c14b0 : ((bt a0 x11_1) == 36) = false := beq_eq_false_iff_ne.mpr c14
                    have c14b1 : ((bt a0 x11_1) != 36) = true := bne_iff_ne.mpr c14
                    by_cases c16 : (bt a0 x11_1) = 35
                    · rw [if_pos c16] at H
                      have c16b0 : ((bt a0 x11_1) == 35) = true := beq_iff_eq.mpr c16
                      have c16b1 : ((bt a0 x11_1) != 35) = false := bne_eq_false_iff_eq.mpr c16
                      clear c16
                      by_cases c17 : a2 = true
                      · subst c17
                        have H1 : (some true) = some r := by rw [if_pos rfl] at H; exact H
                        clear H
                        have H := H1
                        clear H1
                        obtain rfl := Option.some.inj H
                        go_wp2
                        go_ret
                        exact ⟨by first | rfl | (simp; done) | (simp [*]; done), by repeat (first | exact Drawn0.refl _ | apply Drawn0.step)⟩
                      · replace c17 := Bool.eq_false_iff.mpr c17
                        subst c17
                        have H1 : (spec_unclear.l0 kj7 a0 a1 false (a0.size : Int) (wrap64 (x11_1 + 1))) = some r := by rw [if_neg (show ¬ (false = true) by decide)] at H; exact H
                        clear H
                        have H := H1
                        clear H1
                        have H' := Aside0.mk H
                        clear H
                        go_wp2
                        go_roundg kj7
                        case measure => have := HK1.out; have := HJ7.out; omega
                        case rel => exact ⟨(wrap64 (x11_1 + 1)), (by first | rfl | (simp; done) | (simp [*]; done)), H', ⟨by have := HK1.out; have := HJ7.out; omega⟩, by repeat (first | exact Drawn0.refl _ | apply Drawn0.step)⟩
                    · rw [if_neg c16] at H
                      have c16b0 : ((bt a0 x11_1) == 35) = false := beq_eq_false_iff_ne.mpr c16
                      have c16b1 : ((bt a0 x11_1) != 35) = true := bne_iff_ne.mpr c16
                      have H' := Aside0.mk H
                      clear H
                      go_wp2
                      go_roundg kj7
                      case measure => have := HK1.out; have := HJ7.out; omega
                      case rel => exact ⟨(wrap64 (x11_1 + 1)), (by first | rfl | (simp; done) | (simp [*]; done)), H', ⟨by have := HK1.out; have := HJ7.out; omega⟩, by repeat (first | exact Drawn0.refl _ | apply Drawn0.step)⟩
          · rw [if_neg c6] at H
            exact absurd H (by simp)
        · rw [if_neg c5] at H
          exact absurd H (by simp)
      · rw [if_neg c4] at H
        have c4b0 : decide (x11_1 < (a0.size : Int)) = false := decide_eq_false c4
        clear c4
        replace H := Option.bind_eq_some_iff.mp H
        obtain ⟨t110, A180, H⟩ := H
        replace H : (some (!t110)) = some r := H
        have A18 := Aside0.mk A180
        clear A180
        obtain rfl := Option.some.inj H
        go_wp2_with (first | ((with_reducible refine gate_callee (f := 43) rfl ?_); refine goesL_ (some 32) rfl rfl Tryd.func43 (by kernel_rfl) rfl #[.string a0] rfl (by (try simp only [List.map_toArray, List.map_cons, List.map_nil]); first | done | rfl | (simp only [List.length_drop, List.length_take]; rfl)) ?_; (with_reducible refine (spec_wellFormed.calls k1 a0 t110 _ A18.out).mono ?_); rintro e w' ⟨rfl, ⟨nd, rfl⟩⟩; refine ⟨_, rfl, ?_⟩))
        go_ret
        exact ⟨by first | rfl | (simp; done) | (simp [*]; done), by repeat (first | exact Drawn0.refl _ | apply Drawn0.step)⟩

-- NOT PRINTED: function 31 (spec_parser_add)

/-- A state of type 62 at block g of W; what its slices lead to came in by w0. -/
def IsS62 (w0 W : World) (g : Nat) (f0 : List ByteArray) (f1 : ByteArray) (f2 : Bool) (f3 : Bool) (f4 : Bool) : Prop := ∃ A0 c0, W.heap[g]? = some (.cells #[.slice A0 f0.length c0, .string f1, .bool f2, .bool f3, .bool f4] 62 (0, 0)) ∧ w0.heap.size ≤ g ∧ Kd.C Kd.string w0 A0 f0.length f0
theorem IsS62.grown {w0 W : World} {g : Nat} {f0 : List ByteArray} {f1 : ByteArray} {f2 : Bool} {f3 : Bool} {f4 : Bool} {W1 : World} {row : Option Nat} (h : IsS62 w0 W g f0 f1 f2 f3 f4) (hw : W.grownBy W1 row) (hne : some g ≠ row) : IsS62 w0 W1 g f0 f1 f2 f3 f4 := by
  obtain ⟨A0, c0, hb, hg, hr0⟩ := h
  exact ⟨A0, c0, blk_grown hb hw hne, hg, hr0⟩
theorem IsS62.own_neN {w0 W : World} {g : Nat} {f0 : List ByteArray} {f1 : ByteArray} {f2 : Bool} {f3 : Bool} {f4 : Bool} {α : Type} {d : Kd α} {e : Nat} {base : Nat} {ok : Nat → Prop} {v : Value} {xs : List α} (h : IsS62 w0 W g f0 f1 f2 f3 f4) (ho : Kd.N d e W base ok v xs) (ht : e ≠ 62) : some g ≠ v.ownBlock := by
  obtain ⟨A0, c0, hb, hg, hr0⟩ := h
  exact Kd.N_ne ho hb ht
theorem IsS62.fresh {w0 W : World} {g : Nat} {f0 : List ByteArray} {f1 : ByteArray} {f2 : Bool} {f3 : Bool} {f4 : Bool} (h : IsS62 w0 W g f0 f1 f2 f3 f4) : ∀ k, W.heap.size ≤ k → k ≠ g := by
  obtain ⟨A0, c0, hb, hg, hr0⟩ := h
  exact Kd.freshB hb
theorem IsS62.kept {w0 W : World} {g : Nat} {f0 : List ByteArray} {f1 : ByteArray} {f2 : Bool} {f3 : Bool} {f4 : Bool} {W1 : World} {S : Nat → Prop} (h : IsS62 w0 W g f0 f1 f2 f3 f4) (hk : Kept W W1 S) (hne : ¬ S g) : IsS62 w0 W1 g f0 f1 f2 f3 f4 := by
  obtain ⟨A0, c0, hb, hg, hr0⟩ := h
  exact ⟨A0, c0, blk_kept hb hk hne, hg, hr0⟩
theorem IsS62.below {w0 W : World} {g : Nat} {f0 : List ByteArray} {f1 : ByteArray} {f2 : Bool} {f3 : Bool} {f4 : Bool} {W1 : World} (h : IsS62 w0 W g f0 f1 f2 f3 f4) (hw : Below W.heap.size W W1) : IsS62 w0 W1 g f0 f1 f2 f3 f4 := h.grown (grown_of_below hw none) (by simp)
theorem IsS62.alloc {w0 W : World} {g : Nat} {f0 : List ByteArray} {f1 : ByteArray} {f2 : Bool} {f3 : Bool} {f4 : Bool} (h : IsS62 w0 W g f0 f1 f2 f3 f4) (o : Obj) : IsS62 w0 (W.alloc o) g f0 f1 f2 f3 f4 := h.below (below_alloc (Below.refl _ _) o)
theorem IsS62.drewN {w0 W : World} {g : Nat} {f0 : List ByteArray} {f1 : ByteArray} {f2 : Bool} {f3 : Bool} {f4 : Bool} (h : IsS62 w0 W g f0 f1 f2 f3 f4) (m : Nat) : IsS62 w0 (W.drewN m) g f0 f1 f2 f3 f4 := h
theorem IsS62.drew {w0 W : World} {g : Nat} {f0 : List ByteArray} {f1 : ByteArray} {f2 : Bool} {f3 : Bool} {f4 : Bool} (h : IsS62 w0 W g f0 f1 f2 f3 f4) : IsS62 w0 W.drew g f0 f1 f2 f3 f4 := h
theorem IsS62.at_ {w0 W : World} {g : Nat} {f0 : List ByteArray} {f1 : ByteArray} {f2 : Bool} {f3 : Bool} {f4 : Bool} {w' : World} {m : Nat} (hq : W.drewN m = w') (h : IsS62 w0 W g f0 f1 f2 f3 f4) : IsS62 w0 w' g f0 f1 f2 f3 f4 := by subst hq; exact IsS62.drewN h m
theorem IsS62.apart {w0 W : World} {g : Nat} {f0 : List ByteArray} {f1 : ByteArray} {f2 : Bool} {f3 : Bool} {f4 : Bool} {α : Type} {d : Kd α} {e : Nat} {base : Nat} {ok : Nat → Prop} {v : Value} {xs : List α} (h : IsS62 w0 W g f0 f1 f2 f3 f4) (ho : d.R e W base ok v xs) (ht : ∀ q, q ∈ e :: d.E → q ≠ 62) : d.R e W base (fun k => ok k ∧ k ≠ g) v xs := by
  obtain ⟨A0, c0, hb, hg, hr0⟩ := h
  exact Kd.R_types ho hb ht
theorem IsS62.own_ne {w0 W : World} {g : Nat} {f0 : List ByteArray} {f1 : ByteArray} {f2 : Bool} {f3 : Bool} {f4 : Bool} {α : Type} {d : Kd α} {e : Nat} {base : Nat} {ok : Nat → Prop} {v : Value} {xs : List α} (h : IsS62 w0 W g f0 f1 f2 f3 f4) (ho : d.R e W base ok v xs) (ht : e ≠ 62) : some g ≠ v.ownBlock := by
  obtain ⟨A0, c0, hb, hg, hr0⟩ := h
  exact Kd.R_ne ho hb ht
theorem IsS62.apartQ {w0 W : World} {g : Nat} {f0 : List ByteArray} {f1 : ByteArray} {f2 : Bool} {f3 : Bool} {f4 : Bool} {α : Type} {d : Kd α} {e : Nat} {base : Nat} {ok : Nat → Prop} {v : Value} {xs : List α} (h : IsS62 w0 W g f0 f1 f2 f3 f4) (ho : d.Q e W base ok v xs) (ht : ∀ q, q ∈ e :: d.E → q ≠ 62) : d.Q e W base (fun k => ok k ∧ k ≠ g) v xs := by
  obtain ⟨A0, c0, hb, hg, hr0⟩ := h
  exact Kd.Q_types ho hb ht
theorem IsS62.own_neQ {w0 W : World} {g : Nat} {f0 : List ByteArray} {f1 : ByteArray} {f2 : Bool} {f3 : Bool} {f4 : Bool} {α : Type} {d : Kd α} {e : Nat} {base : Nat} {ok : Nat → Prop} {v : Value} {xs : List α} (h : IsS62 w0 W g f0 f1 f2 f3 f4) (ho : d.Q e W base ok v xs) (ht : e ≠ 62) : some g ≠ v.ownBlock := by
  obtain ⟨A0, c0, hb, hg, hr0⟩ := h
  exact Kd.Q_ne ho hb ht
theorem IsS62.apartS {w0 W : World} {g : Nat} {f0 : List ByteArray} {f1 : ByteArray} {f2 : Bool} {f3 : Bool} {f4 : Bool} {α : Type} {d : Kd α} {e : Nat} {base : Nat} {ok : Nat → Prop} {v : Value} {xs : List α} (h : IsS62 w0 W g f0 f1 f2 f3 f4) (ho : d.S e W base ok v xs) (ht : ∀ q, q ∈ e :: d.E → q ≠ 62) : d.S e W base (fun k => ok k ∧ k ≠ g) v xs := by
  obtain ⟨A0, c0, hb, hg, hr0⟩ := h
  exact Kd.S_types ho hb ht
theorem IsS62.own_neS {w0 W : World} {g : Nat} {f0 : List ByteArray} {f1 : ByteArray} {f2 : Bool} {f3 : Bool} {f4 : Bool} {α : Type} {d : Kd α} {e : Nat} {base : Nat} {ok : Nat → Prop} {v : Value} {xs : List α} (h : IsS62 w0 W g f0 f1 f2 f3 f4) (ho : d.S e W base ok v xs) (ht : e ≠ 62) : some g ≠ v.ownBlock := by
  obtain ⟨A0, c0, hb, hg, hr0⟩ := h
  exact Kd.S_ne ho hb ht
theorem IsS62.lt {w0 W : World} {g : Nat} {f0 : List ByteArray} {f1 : ByteArray} {f2 : Bool} {f3 : Bool} {f4 : Bool} (h : IsS62 w0 W g f0 f1 f2 f3 f4) : g < W.heap.size := by
  obtain ⟨A0, c0, hb, hg, hr0⟩ := h
  exact blk_lt hb
theorem IsS62.ge {w0 W : World} {g : Nat} {f0 : List ByteArray} {f1 : ByteArray} {f2 : Bool} {f3 : Bool} {f4 : Bool} (h : IsS62 w0 W g f0 f1 f2 f3 f4) : w0.heap.size ≤ g := by
  obtain ⟨A0, c0, hb, hg, hr0⟩ := h
  exact hg
theorem IsS62.ne_blk {w0 W : World} {g : Nat} {f0 : List ByteArray} {f1 : ByteArray} {f2 : Bool} {f3 : Bool} {f4 : Bool} {a : Nat} {cs : Array Value} {t : TypeId} {fr : Nat × Nat} (h : IsS62 w0 W g f0 f1 f2 f3 f4) (hb2 : W.heap[a]? = some (.cells cs t fr)) (ht : t ≠ 62) : g ≠ a := by
  obtain ⟨A0, c0, hb, hg, hr0⟩ := h
  rintro rfl
  rw [hb] at hb2
  injection hb2 with hb2
  injection hb2 with _ ht2
  exact ht ht2.symm
theorem IsS62.far {w0 W : World} {g : Nat} {f0 : List ByteArray} {f1 : ByteArray} {f2 : Bool} {f3 : Bool} {f4 : Bool} {p : Addr} (h : IsS62 w0 W g f0 f1 f2 f3 f4) (hne : g ≠ p.block) (u : Value) : IsS62 w0 (W.setCell p u) g f0 f1 f2 f3 f4 := by
  obtain ⟨A0, c0, hb, hg, hr0⟩ := h
  exact ⟨A0, c0, blk_far hb hne u, hg, hr0⟩
theorem cellS62_0 {W : World} {g : Nat} {A0 : Option Addr} {c0 : Nat} {f0 : List ByteArray} {f1 : ByteArray} {f2 : Bool} {f3 : Bool} {f4 : Bool} (h : W.heap[g]? = some (.cells #[.slice A0 f0.length c0, .string f1, .bool f2, .bool f3, .bool f4] 62 (0, 0))) : W.cell? ⟨g, 0, none⟩ = some (.slice A0 f0.length c0) := (blk_cell h 0).trans rfl
theorem cellS62_1 {W : World} {g : Nat} {A0 : Option Addr} {c0 : Nat} {f0 : List ByteArray} {f1 : ByteArray} {f2 : Bool} {f3 : Bool} {f4 : Bool} (h : W.heap[g]? = some (.cells #[.slice A0 f0.length c0, .string f1, .bool f2, .bool f3, .bool f4] 62 (0, 0))) : W.cell? ⟨g, 1, none⟩ = some (.string f1) := (blk_cell h 1).trans rfl
theorem IsS62.set_1 {w0 W : World} {g : Nat} {f0 : List ByteArray} {f1 : ByteArray} {f2 : Bool} {f3 : Bool} {f4 : Bool} (h : IsS62 w0 W g f0 f1 f2 f3 f4) (x : ByteArray) : IsS62 w0 (W.setCell ⟨g, 1, none⟩ (.string x)) g f0 x f2 f3 f4 := by
  obtain ⟨A0, c0, hb, hg, hr0⟩ := h
  exact ⟨A0, c0, by simpa using blk_set hb 1 (.string x), hg, hr0⟩
theorem cellS62_2 {W : World} {g : Nat} {A0 : Option Addr} {c0 : Nat} {f0 : List ByteArray} {f1 : ByteArray} {f2 : Bool} {f3 : Bool} {f4 : Bool} (h : W.heap[g]? = some (.cells #[.slice A0 f0.length c0, .string f1, .bool f2, .bool f3, .bool f4] 62 (0, 0))) : W.cell? ⟨g, 2, none⟩ = some (.bool f2) := (blk_cell h 2).trans rfl
theorem IsS62.set_2 {w0 W : World} {g : Nat} {f0 : List ByteArray} {f1 : ByteArray} {f2 : Bool} {f3 : Bool} {f4 : Bool} (h : IsS62 w0 W g f0 f1 f2 f3 f4) (x : Bool) : IsS62 w0 (W.setCell ⟨g, 2, none⟩ (.bool x)) g f0 f1 x f3 f4 := by
  obtain ⟨A0, c0, hb, hg, hr0⟩ := h
  exact ⟨A0, c0, by simpa using blk_set hb 2 (.bool x), hg, hr0⟩
theorem cellS62_3 {W : World} {g : Nat} {A0 : Option Addr} {c0 : Nat} {f0 : List ByteArray} {f1 : ByteArray} {f2 : Bool} {f3 : Bool} {f4 : Bool} (h : W.heap[g]? = some (.cells #[.slice A0 f0.length c0, .string f1, .bool f2, .bool f3, .bool f4] 62 (0, 0))) : W.cell? ⟨g, 3, none⟩ = some (.bool f3) := (blk_cell h 3).trans rfl
theorem IsS62.set_3 {w0 W : World} {g : Nat} {f0 : List ByteArray} {f1 : ByteArray} {f2 : Bool} {f3 : Bool} {f4 : Bool} (h : IsS62 w0 W g f0 f1 f2 f3 f4) (x : Bool) : IsS62 w0 (W.setCell ⟨g, 3, none⟩ (.bool x)) g f0 f1 f2 x f4 := by
  obtain ⟨A0, c0, hb, hg, hr0⟩ := h
  exact ⟨A0, c0, by simpa using blk_set hb 3 (.bool x), hg, hr0⟩
theorem cellS62_4 {W : World} {g : Nat} {A0 : Option Addr} {c0 : Nat} {f0 : List ByteArray} {f1 : ByteArray} {f2 : Bool} {f3 : Bool} {f4 : Bool} (h : W.heap[g]? = some (.cells #[.slice A0 f0.length c0, .string f1, .bool f2, .bool f3, .bool f4] 62 (0, 0))) : W.cell? ⟨g, 4, none⟩ = some (.bool f4) := (blk_cell h 4).trans rfl
theorem IsS62.set_4 {w0 W : World} {g : Nat} {f0 : List ByteArray} {f1 : ByteArray} {f2 : Bool} {f3 : Bool} {f4 : Bool} (h : IsS62 w0 W g f0 f1 f2 f3 f4) (x : Bool) : IsS62 w0 (W.setCell ⟨g, 4, none⟩ (.bool x)) g f0 f1 f2 f3 x := by
  obtain ⟨A0, c0, hb, hg, hr0⟩ := h
  exact ⟨A0, c0, by simpa using blk_set hb 4 (.bool x), hg, hr0⟩
theorem IsS62.new (w0 W : World) (A0 : Option Addr) (c0 : Nat) (f0 : List ByteArray) (f1 : ByteArray) (f2 : Bool) (f3 : Bool) (f4 : Bool) (hB : Below w0.heap.size w0 W) (hr0 : Kd.C Kd.string w0 A0 f0.length f0) : IsS62 w0 (W.alloc (.cells #[.slice A0 f0.length c0, .string f1, .bool f2, .bool f3, .bool f4] 62)) W.heap.size f0 f1 f2 f3 f4 := ⟨A0, c0, by simpa using heap_alloc_new W _, hB.size, hr0⟩

/-! ### spec_parser_quote: function 32 -/
def spec_parser_quote.j0 : Nat → Int → Bool → List ByteArray → ByteArray → Bool → Bool → Bool → Option (Bool × ByteArray × Bool × Bool × Bool)
  | 0, _, _, _, _, _, _, _ => none
  | k + 1, x1, x5, x1000, x1001, x1002, x1003, x1004 => if x5 = true then (some (true, x1001, true, !x1003, x1004)) else (if x1 = 34 then (if x1003 = true then (some (false, x1001, x1002, x1003, x1004)) else (some (true, x1001, true, x1003, !x1004))) else (some (false, x1001, x1002, x1003, x1004)))
def spec_parser_quote.f (k : Nat) (s0_0 : List ByteArray) (s0_1 : ByteArray) (s0_2 : Bool) (s0_3 : Bool) (s0_4 : Bool) (a1 : Int) : Option (Bool × ByteArray × Bool × Bool × Bool) := if a1 = 39 then (spec_parser_quote.j0 k a1 (!s0_4) s0_0 s0_1 s0_2 s0_3 s0_4) else (spec_parser_quote.j0 k a1 false s0_0 s0_1 s0_2 s0_3 s0_4)
theorem spec_parser_quote.mono_l : ∀ k, (∀ y0 y1 y2 y3 y4 y5 y6, LeO (spec_parser_quote.j0 k y0 y1 y2 y3 y4 y5 y6) (spec_parser_quote.j0 (k + 1) y0 y1 y2 y3 y4 y5 y6))
  | 0 => fun _ _ _ _ _ _ _ r h => by simp [spec_parser_quote.j0] at h
  | k + 1 => by
    have ih0 := spec_parser_quote.mono_l k
    · intro y0 y1 y2 y3 y4 y5 y6
      unfold spec_parser_quote.j0
      repeat' first
      | (with_reducible exact ih0 _ _ _ _ _ _ _)
      | (with_reducible exact LeO.refl _)
      | (with_reducible exact LeO.none _)
      | (with_reducible refine LeO.ite ?_ ?_)
      | (with_reducible refine LeO.bind ?_ (fun _ => ?_))
      | exact ih0 _ _ _ _ _ _ _
      | exact LeO.none _
      | refine LeO.ite ?_ ?_
      | refine LeO.bind ?_ (fun _ => ?_)
theorem spec_parser_quote.mono : ∀ a0 a1 a2 a3 a4 a5 k, LeO (spec_parser_quote.f k a0 a1 a2 a3 a4 a5) (spec_parser_quote.f (k + 1) a0 a1 a2 a3 a4 a5) := by
  intro a0 a1 a2 a3 a4 a5 k
  have ih0 := spec_parser_quote.mono_l k
  unfold spec_parser_quote.f
  repeat' first
      | (with_reducible exact ih0 _ _ _ _ _ _ _)
      | (with_reducible exact LeO.refl _)
      | (with_reducible exact LeO.none _)
      | (with_reducible refine LeO.ite ?_ ?_)
      | (with_reducible refine LeO.bind ?_ (fun _ => ?_))
      | exact ih0 _ _ _ _ _ _ _
      | exact LeO.none _
      | refine LeO.ite ?_ ?_
      | refine LeO.bind ?_ (fun _ => ?_)
set_option maxHeartbeats 8000000 in
set_option maxRecDepth 100000 in
theorem spec_parser_quote.calls (k : Nat) (g : Nat) (s0_0 : List ByteArray) (s0_1 : ByteArray) (s0_2 : Bool) (s0_3 : Bool) (s0_4 : Bool) (a1 : Int) (r1 : Bool) (r2 : ByteArray) (r3 : Bool) (r4 : Bool) (r5 : Bool) (w0 w : World) (hI : IsS62 w0 w g s0_0 s0_1 s0_2 s0_3 s0_4) (hB : Below w0.heap.size w0 w) (h : spec_parser_quote.f k s0_0 s0_1 s0_2 s0_3 s0_4 a1 = some (r1, r2, r3, r4, r5)) :
    Calls Tryd.prog 32 #[.pointer (some ⟨g, 0, none⟩), .int .u8 a1] w fun e w' => e = .returned (.bool r1) ∧ IsS62 w0 w' g s0_0 r2 r3 r4 r5 ∧ Below w0.heap.size w0 w' ∧ KeepBut w w' g none := by
  have HI0 := Aside0.mk hI
  have HK := Aside0.mk (KeepBut.refl w g none)
  have HL := Aside0.mk hB.size
  clear hI
  have HW0 := Aside0.mk hB.size
  have HB := Aside0.mk hB
  clear hB
  have H : (if a1 = 39 then (spec_parser_quote.j0 k a1 (!s0_4) s0_0 s0_1 s0_2 s0_3 s0_4) else (spec_parser_quote.j0 k a1 false s0_0 s0_1 s0_2 s0_3 s0_4)) = some (r1, r2, r3, r4, r5) := h
  clear h
  have HC3 := Aside0.mk H
  clear H
  go_enter Tryd.func32, Tryd.ntmps32
  go_upto_region 2 with (fail)
  go_cut [5] (fun v5 wc => ∃ (kq : Nat) (x5_2 : Bool), v5 = .bool x5_2 ∧ Aside0 (spec_parser_quote.j0 kq a1 x5_2 s0_0 s0_1 s0_2 s0_3 s0_4 = some (r1, r2, r3, r4, r5)) ∧ Aside0 (kq ≤ k) ∧ Aside0 (IsS62 w0 wc g s0_0 s0_1 s0_2 s0_3 s0_4) ∧ Aside0 (KeepBut w wc g none) ∧ Aside0 (Below w0.heap.size w0 wc))
  case first =>
    have H := HC3.out
    clear HC3
    by_cases c4 : a1 = 39
    · rw [if_pos c4] at H
      have c4b0 : (a1 == 39) = true := beq_iff_eq.mpr c4
      have c4b1 : (a1 != 39) = false := bne_eq_false_iff_eq.mpr c4
      clear c4
      (first | rw [c4b0] | (simp only [i64_w, i32_w]; rw [c4b0]) | skip)
      have H' := Aside0.mk H
      clear H
      obtain ⟨ASz5_0, cSz5_0, HGz5, hgz5, HSz5_0⟩ := HI0.out
      have hcz5_0 := cellS62_0 HGz5
      have hcz5_1 := cellS62_1 HGz5
      have hcz5_2 := cellS62_2 HGz5
      have hcz5_3 := cellS62_3 HGz5
      have hcz5_4 := cellS62_4 HGz5
      have hfz5_1 := blk_frozen HGz5 1
      have hfz5_2 := blk_frozen HGz5 2
      have hfz5_3 := blk_frozen HGz5 3
      have hfz5_4 := blk_frozen HGz5 4
      clear HGz5 hgz5
      go_wp2
      go_meet
      case rel => exact ⟨_, (!s0_4), (by first | rfl | (simp; done) | (simp [*]; done)), H', ⟨by first | omega | exact Nat.le_refl _⟩, ⟨by repeat (first | (with_reducible first | exact HI0.out | apply IsS62.alloc | apply IsS62.drewN | apply IsS62.drew | apply IsS62.set_1 | apply IsS62.set_2 | apply IsS62.set_3 | apply IsS62.set_4) | exact HI0.out)⟩, ⟨by repeat (first | (with_reducible first | exact HK.out | apply KeepBut.set_ | apply keep_drewN | apply keep_drew | apply keep_alloc) | exact HK.out)⟩, ⟨by repeat (first | (with_reducible first | exact HB.out | apply below_alloc | apply pw_below_drewN | apply below_drew1 | refine below_set ?_ (IsS62.ge HI0.out)) | exact HB.out)⟩⟩
    · rw [if_neg c4] at H
      have c4b0 : (a1 == 39) = false := beq_eq_false_iff_ne.mpr c4
      have c4b1 : (a1 != 39) = true := bne_iff_ne.mpr c4
      (first | rw [c4b0] | (simp only [i64_w, i32_w]; rw [c4b0]) | skip)
      have H' := Aside0.mk H
      clear H
      go_wp2
      go_meet
      case rel => exact ⟨_, (false), (by first | rfl | (simp; done) | (simp [*]; done)), H', ⟨by first | omega | exact Nat.le_refl _⟩, ⟨by repeat (first | (with_reducible first | exact HI0.out | apply IsS62.alloc | apply IsS62.drewN | apply IsS62.drew | apply IsS62.set_1 | apply IsS62.set_2 | apply IsS62.set_3 | apply IsS62.set_4) | exact HI0.out)⟩, ⟨by repeat (first | (with_reducible first | exact HK.out | apply KeepBut.set_ | apply keep_drewN | apply keep_drew | apply keep_alloc) | exact HK.out)⟩, ⟨by repeat (first | (with_reducible first | exact HB.out | apply below_alloc | apply pw_below_drewN | apply below_drew1 | refine below_set ?_ (IsS62.ge HI0.out)) | exact HB.out)⟩⟩
  case rest =>
    clear HC3
    try clear p2
    try clear c3
    try clear c4
    try clear c4b0
    try clear c4b1
    try clear hcz5_0
    try clear hcz5_1
    try clear hcz5_2
    try clear hcz5_3
    try clear hcz5_4
    try clear hfz5_1
    try clear hfz5_2
    try clear hfz5_3
    try clear hfz5_4
    obtain ⟨kq, x5_2, rfl, HA, HJ2, HI0, HK, HB⟩ := hcut
    cases kq with
    | zero => exact absurd HA.out (by simp [spec_parser_quote.j0])
    | succ kj2 =>
      have H := HA.out
      clear HA
      simp only [spec_parser_quote.j0] at H
      by_cases c6 : x5_2 = true
      · subst c6
        have H1 : (some (true, s0_1, true, !s0_3, s0_4)) = some (r1, r2, r3, r4, r5) := by rw [if_pos rfl] at H; exact H
        clear H
        have H := H1
        clear H1
        simp only [Option.some.injEq, Prod.mk.injEq] at H
        obtain ⟨rfl, rfl, rfl, rfl, rfl⟩ := H
        obtain ⟨ASz7_0, cSz7_0, HGz7, hgz7, HSz7_0⟩ := HI0.out
        have hcz7_0 := cellS62_0 HGz7
        have hcz7_1 := cellS62_1 HGz7
        have hcz7_2 := cellS62_2 HGz7
        have hcz7_3 := cellS62_3 HGz7
        have hcz7_4 := cellS62_4 HGz7
        have hfz7_1 := blk_frozen HGz7 1
        have hfz7_2 := blk_frozen HGz7 2
        have hfz7_3 := blk_frozen HGz7 3
        have hfz7_4 := blk_frozen HGz7 4
        clear HGz7 hgz7
        go_wp2
        go_ret
        exact ⟨by first | rfl | (simp [errW_none, errW_some] <;> rfl) | (simp [*, errW_none, errW_some] <;> rfl), by repeat (first | (with_reducible first | exact HI0.out | apply IsS62.alloc | apply IsS62.drewN | apply IsS62.drew | apply IsS62.set_1 | apply IsS62.set_2 | apply IsS62.set_3 | apply IsS62.set_4) | exact HI0.out), by repeat (first | (with_reducible first | exact HB.out | apply below_alloc | apply pw_below_drewN | apply below_drew1 | refine below_set ?_ (IsS62.ge HI0.out)) | exact HB.out), by repeat (first | (with_reducible first | exact HK.out | apply KeepBut.set_ | apply keep_drewN | apply keep_drew | apply keep_alloc) | exact HK.out)⟩
      · replace c6 := Bool.eq_false_iff.mpr c6
        subst c6
        have H1 : (if a1 = 34 then (if s0_3 = true then (some (false, s0_1, s0_2, s0_3, s0_4)) else (some (true, s0_1, true, s0_3, !s0_4))) else (some (false, s0_1, s0_2, s0_3, s0_4))) = some (r1, r2, r3, r4, r5) := by rw [if_neg (show ¬ (false = true) by decide)] at H; exact H
        clear H
        have H := H1
        clear H1
        by_cases c8 : a1 = 34
        · rw [if_pos c8] at H
          have c8b0 : (a1 == 34) = true := beq_iff_eq.mpr c8
          have c8b1 : (a1 != 34) = false := bne_eq_false_iff_eq.mpr c8
          clear c8
          by_cases c9 : s0_3 = true
          · subst c9
            have H1 : (some (false, s0_1, s0_2, true, s0_4)) = some (r1, r2, r3, r4, r5) := by rw [if_pos rfl] at H; exact H
            clear H
            have H := H1
            clear H1
            simp only [Option.some.injEq, Prod.mk.injEq] at H
            obtain ⟨rfl, rfl, rfl, rfl, rfl⟩ := H
            obtain ⟨ASz10_0, cSz10_0, HGz10, hgz10, HSz10_0⟩ := HI0.out
            have hcz10_0 := cellS62_0 HGz10
            have hcz10_1 := cellS62_1 HGz10
            have hcz10_2 := cellS62_2 HGz10
            have hcz10_3 := cellS62_3 HGz10
            have hcz10_4 := cellS62_4 HGz10
            have hfz10_1 := blk_frozen HGz10 1
            have hfz10_2 := blk_frozen HGz10 2
            have hfz10_3 := blk_frozen HGz10 3
            have hfz10_4 := blk_frozen HGz10 4
            clear HGz10 hgz10
            go_wp2
            go_ret
            exact ⟨by first | rfl | (simp [errW_none, errW_some] <;> rfl) | (simp [*, errW_none, errW_some] <;> rfl), by repeat (first | (with_reducible first | exact HI0.out | apply IsS62.alloc | apply IsS62.drewN | apply IsS62.drew | apply IsS62.set_1 | apply IsS62.set_2 | apply IsS62.set_3 | apply IsS62.set_4) | exact HI0.out), by repeat (first | (with_reducible first | exact HB.out | apply below_alloc | apply pw_below_drewN | apply below_drew1 | refine below_set ?_ (IsS62.ge HI0.out)) | exact HB.out), by repeat (first | (with_reducible first | exact HK.out | apply KeepBut.set_ | apply keep_drewN | apply keep_drew | apply keep_alloc) | exact HK.out)⟩
          · replace c9 := Bool.eq_false_iff.mpr c9
            subst c9
            have H1 : (some (true, s0_1, true, false, !s0_4)) = some (r1, r2, r3, r4, r5) := by rw [if_neg (show ¬ (false = true) by decide)] at H; exact H
            clear H
            have H := H1
            clear H1
            simp only [Option.some.injEq, Prod.mk.injEq] at H
            obtain ⟨rfl, rfl, rfl, rfl, rfl⟩ := H
            obtain ⟨ASz11_0, cSz11_0, HGz11, hgz11, HSz11_0⟩ := HI0.out
            have hcz11_0 := cellS62_0 HGz11
            have hcz11_1 := cellS62_1 HGz11
            have hcz11_2 := cellS62_2 HGz11
            have hcz11_3 := cellS62_3 HGz11
            have hcz11_4 := cellS62_4 HGz11
            have hfz11_1 := blk_frozen HGz11 1
            have hfz11_2 := blk_frozen HGz11 2
            have hfz11_3 := blk_frozen HGz11 3
            have hfz11_4 := blk_frozen HGz11 4
            clear HGz11 hgz11
            go_wp2
            go_ret
            exact ⟨by first | rfl | (simp [errW_none, errW_some] <;> rfl) | (simp [*, errW_none, errW_some] <;> rfl), by repeat (first | (with_reducible first | exact HI0.out | apply IsS62.alloc | apply IsS62.drewN | apply IsS62.drew | apply IsS62.set_1 | apply IsS62.set_2 | apply IsS62.set_3 | apply IsS62.set_4) | exact HI0.out), by repeat (first | (with_reducible first | exact HB.out | apply below_alloc | apply pw_below_drewN | apply below_drew1 | refine below_set ?_ (IsS62.ge HI0.out)) | exact HB.out), by repeat (first | (with_reducible first | exact HK.out | apply KeepBut.set_ | apply keep_drewN | apply keep_drew | apply keep_alloc) | exact HK.out)⟩
        · rw [if_neg c8] at H
          have c8b0 : (a1 == 34) = false := beq_eq_false_iff_ne.mpr c8
          have c8b1 : (a1 != 34) = true := bne_iff_ne.mpr c8
          simp only [Option.some.injEq, Prod.mk.injEq] at H
          obtain ⟨rfl, rfl, rfl, rfl, rfl⟩ := H
          go_wp2
          go_ret
          exact ⟨by first | rfl | (simp [errW_none, errW_some] <;> rfl) | (simp [*, errW_none, errW_some] <;> rfl), by repeat (first | (with_reducible first | exact HI0.out | apply IsS62.alloc | apply IsS62.drewN | apply IsS62.drew | apply IsS62.set_1 | apply IsS62.set_2 | apply IsS62.set_3 | apply IsS62.set_4) | exact HI0.out), by repeat (first | (with_reducible first | exact HB.out | apply below_alloc | apply pw_below_drewN | apply below_drew1 | refine below_set ?_ (IsS62.ge HI0.out)) | exact HB.out), by repeat (first | (with_reducible first | exact HK.out | apply KeepBut.set_ | apply keep_drewN | apply keep_drew | apply keep_alloc) | exact HK.out)⟩

-- NOT PRINTED: function 33 (spec_parser_end)

/-! ### spec_digit: function 34 -/
def spec_digit.f (a0 : Int) : Option (Bool) := if a0 ≥ 48 then (some (decide (a0 ≤ 57))) else (some false)
set_option maxHeartbeats 8000000 in
set_option maxRecDepth 100000 in
theorem spec_digit.calls (a0 : Int) (r : Bool) (w : World) (h : spec_digit.f a0 = some r) :
    Calls Tryd.prog 34 #[.int .u8 a0] w fun e w' => e = .returned (.bool r) ∧ Drawn0 w w' := by
  have H : (if a0 ≥ 48 then (some (decide (a0 ≤ 57))) else (some false)) = some r := h
  clear h
  by_cases c2 : a0 ≥ 48
  · rw [if_pos c2] at H
    have c2b0 : decide (48 ≤ a0) = true := decide_eq_true c2
    clear c2
    obtain rfl := Option.some.inj H
    go_enter Tryd.func34, Tryd.ntmps34
    go_wp2
    go_ret
    exact ⟨by first | rfl | (simp; done) | (simp [*]; done), by repeat (first | exact Drawn0.refl _ | apply Drawn0.step)⟩
  · rw [if_neg c2] at H
    have c2b0 : decide (48 ≤ a0) = false := decide_eq_false c2
    clear c2
    obtain rfl := Option.some.inj H
    go_enter Tryd.func34, Tryd.ntmps34
    go_wp2
    go_ret
    exact ⟨by first | rfl | (simp; done) | (simp [*]; done), by repeat (first | exact Drawn0.refl _ | apply Drawn0.step)⟩

-- NOT PRINTED: function 23 (spec_Words)

/-! ### spec_lower: function 44 -/
def spec_lower.f (a0 : Int) : Option (Bool) := if a0 ≥ 97 then (some (decide (a0 ≤ 122))) else (some false)
set_option maxHeartbeats 8000000 in
set_option maxRecDepth 100000 in
theorem spec_lower.calls (a0 : Int) (r : Bool) (w : World) (h : spec_lower.f a0 = some r) :
    Calls Tryd.prog 44 #[.int .u8 a0] w fun e w' => e = .returned (.bool r) ∧ Drawn0 w w' := by
  have H : (if a0 ≥ 97 then (some (decide (a0 ≤ 122))) else (some false)) = some r := h
  clear h
  by_cases c2 : a0 ≥ 97
  · rw [if_pos c2] at H
    have c2b0 : decide (97 ≤ a0) = true := decide_eq_true c2
    clear c2
    obtain rfl := Option.some.inj H
    go_enter Tryd.func44, Tryd.ntmps44
    go_wp2
    go_ret
    exact ⟨by first | rfl | (simp; done) | (simp [*]; done), by repeat (first | exact Drawn0.refl _ | apply Drawn0.step)⟩
  · rw [if_neg c2] at H
    have c2b0 : decide (97 ≤ a0) = false := decide_eq_false c2
    clear c2
    obtain rfl := Option.some.inj H
    go_enter Tryd.func44, Tryd.ntmps44
    go_wp2
    go_ret
    exact ⟨by first | rfl | (simp; done) | (simp [*]; done), by repeat (first | exact Drawn0.refl _ | apply Drawn0.step)⟩

/-! ### spec_upper: function 45 -/
def spec_upper.f (a0 : Int) : Option (Bool) := if a0 ≥ 65 then (some (decide (a0 ≤ 90))) else (some false)
set_option maxHeartbeats 8000000 in
set_option maxRecDepth 100000 in
theorem spec_upper.calls (a0 : Int) (r : Bool) (w : World) (h : spec_upper.f a0 = some r) :
    Calls Tryd.prog 45 #[.int .u8 a0] w fun e w' => e = .returned (.bool r) ∧ Drawn0 w w' := by
  have H : (if a0 ≥ 65 then (some (decide (a0 ≤ 90))) else (some false)) = some r := h
  clear h
  by_cases c2 : a0 ≥ 65
  · rw [if_pos c2] at H
    have c2b0 : decide (65 ≤ a0) = true := decide_eq_true c2
    clear c2
    obtain rfl := Option.some.inj H
    go_enter Tryd.func45, Tryd.ntmps45
    go_wp2
    go_ret
    exact ⟨by first | rfl | (simp; done) | (simp [*]; done), by repeat (first | exact Drawn0.refl _ | apply Drawn0.step)⟩
  · rw [if_neg c2] at H
    have c2b0 : decide (65 ≤ a0) = false := decide_eq_false c2
    clear c2
    obtain rfl := Option.some.inj H
    go_enter Tryd.func45, Tryd.ntmps45
    go_wp2
    go_ret
    exact ⟨by first | rfl | (simp; done) | (simp [*]; done), by repeat (first | exact Drawn0.refl _ | apply Drawn0.step)⟩

end Go.Proofs.YtcjfcjlendibpaaDoor.PFnWordsSays
