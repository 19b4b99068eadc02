-- PRINTED BY print.sh 35421559b90ae4d0a3588c463048766b98c2df88dd9212a6774a882060cdf62d: not written by this session
import Derived.Test.YtobcoplfniojkaaPFnRuneWidthx0
namespace Go.Proofs.Ytobcoplfniojkaa.PFnRuneWidth
open Go.RowKit Go.Proofs.YtobcoplfniojkaaW.PrintWords Go.Proofs.YtobcoplfniojkaaW.PrintLast Go.Proofs.YtobcoplfniojkaaW.PrintMore
attribute [local go_sem] max2_int min2_int max_two min_two max_three min_three max_four min_four   -- for this text's walks alone
set_option linter.unusedVariables false
set_option linter.unusedSimpArgs false

/-! ### xstrings_RuneWidth: function 12 -/
mutual
def xstrings_RuneWidth.j0 : Nat → Int → Bool → Option (Int)
  | 0, _, _ => none
  | k + 1, x0, x3 => if x3 = true then (some 0) else (if 32 ≤ x0 then (xstrings_RuneWidth.j1 k x0 (decide (x0 < 8192))) else (xstrings_RuneWidth.j1 k x0 false))
def xstrings_RuneWidth.j1 : Nat → Int → Bool → Option (Int)
  | 0, _, _ => none
  | k + 1, x0, x10 => if x10 = true then (some 1) else (if 8192 ≤ x0 then (xstrings_RuneWidth.j2 k x0 (decide (x0 < 65377))) else (xstrings_RuneWidth.j2 k x0 false))
def xstrings_RuneWidth.j2 : Nat → Int → Bool → Option (Int)
  | 0, _, _ => none
  | k + 1, x0, x17 => if x17 = true then (some 2) else (if 65377 ≤ x0 then (xstrings_RuneWidth.j3 k x0 (decide (x0 < 65440))) else (xstrings_RuneWidth.j3 k x0 false))
def xstrings_RuneWidth.j3 : Nat → Int → Bool → Option (Int)
  | 0, _, _ => none
  | k + 1, x0, x24 => if x24 = true then (some 1) else (if 65440 ≤ x0 then (some 2) else (some 0))
end
def xstrings_RuneWidth.f (k : Nat) (a0 : Int) : Option (Int) := if a0 = 65533 then (xstrings_RuneWidth.j0 k a0 true) else (xstrings_RuneWidth.j0 k a0 (decide (a0 < 32)))
theorem xstrings_RuneWidth.mono_l : ∀ k, (∀ y0 y1, LeO (xstrings_RuneWidth.j0 k y0 y1) (xstrings_RuneWidth.j0 (k + 1) y0 y1)) ∧ (∀ y0 y1, LeO (xstrings_RuneWidth.j1 k y0 y1) (xstrings_RuneWidth.j1 (k + 1) y0 y1)) ∧ (∀ y0 y1, LeO (xstrings_RuneWidth.j2 k y0 y1) (xstrings_RuneWidth.j2 (k + 1) y0 y1)) ∧ (∀ y0 y1, LeO (xstrings_RuneWidth.j3 k y0 y1) (xstrings_RuneWidth.j3 (k + 1) y0 y1))
  | 0 => ⟨fun _ _ r h => by simp [xstrings_RuneWidth.j0] at h, fun _ _ r h => by simp [xstrings_RuneWidth.j1] at h, fun _ _ r h => by simp [xstrings_RuneWidth.j2] at h, fun _ _ r h => by simp [xstrings_RuneWidth.j3] at h⟩
  | k + 1 => by
    obtain ⟨ih0, ih1, ih2, ih3⟩ := xstrings_RuneWidth.mono_l k
    refine ⟨?_, ?_, ?_, ?_⟩
    · intro y0 y1
      unfold xstrings_RuneWidth.j0
      repeat' first
      | (with_reducible exact ih0 _ _)
      | (with_reducible exact ih1 _ _)
      | (with_reducible exact ih2 _ _)
      | (with_reducible exact ih3 _ _)
      | (with_reducible exact LeO.refl _)
      | (with_reducible exact LeO.none _)
      | (with_reducible refine LeO.ite ?_ ?_)
      | (with_reducible refine LeO.bind ?_ (fun _ => ?_))
      | exact ih0 _ _
      | exact ih1 _ _
      | exact ih2 _ _
      | exact ih3 _ _
      | exact LeO.none _
      | refine LeO.ite ?_ ?_
      | refine LeO.bind ?_ (fun _ => ?_)
    · intro y0 y1
      unfold xstrings_RuneWidth.j1
      repeat' first
      | (with_reducible exact ih0 _ _)
      | (with_reducible exact ih1 _ _)
      | (with_reducible exact ih2 _ _)
      | (with_reducible exact ih3 _ _)
      | (with_reducible exact LeO.refl _)
      | (with_reducible exact LeO.none _)
      | (with_reducible refine LeO.ite ?_ ?_)
      | (with_reducible refine LeO.bind ?_ (fun _ => ?_))
      | exact ih0 _ _
      | exact ih1 _ _
      | exact ih2 _ _
      | exact ih3 _ _
      | exact LeO.none _
      | refine LeO.ite ?_ ?_
      | refine LeO.bind ?_ (fun _ => ?_)
    · intro y0 y1
      unfold xstrings_RuneWidth.j2
      repeat' first
      | (with_reducible exact ih0 _ _)
      | (with_reducible exact ih1 _ _)
      | (with_reducible exact ih2 _ _)
      | (with_reducible exact ih3 _ _)
      | (with_reducible exact LeO.refl _)
      | (with_reducible exact LeO.none _)
      | (with_reducible refine LeO.ite ?_ ?_)
      | (with_reducible refine LeO.bind ?_ (fun _ => ?_))
      | exact ih0 _ _
      | exact ih1 _ _
      | exact ih2 _ _
      | exact ih3 _ _
      | exact LeO.none _
      | refine LeO.ite ?_ ?_
      | refine LeO.bind ?_ (fun _ => ?_)
    · intro y0 y1
      unfold xstrings_RuneWidth.j3
      repeat' first
      | (with_reducible exact ih0 _ _)
      | (with_reducible exact ih1 _ _)
      | (with_reducible exact ih2 _ _)
      | (with_reducible exact ih3 _ _)
      | (with_reducible exact LeO.refl _)
      | (with_reducible exact LeO.none _)
      | (with_reducible refine LeO.ite ?_ ?_)
      | (with_reducible refine LeO.bind ?_ (fun _ => ?_))
      | exact ih0 _ _
      | exact ih1 _ _
      | exact ih2 _ _
      | exact ih3 _ _
      | exact LeO.none _
      | refine LeO.ite ?_ ?_
      | refine LeO.bind ?_ (fun _ => ?_)
theorem xstrings_RuneWidth.mono : ∀ a0 k, LeO (xstrings_RuneWidth.f k a0) (xstrings_RuneWidth.f (k + 1) a0) := by
  intro a0 k
  obtain ⟨ih0, ih1, ih2, ih3⟩ := xstrings_RuneWidth.mono_l k
  unfold xstrings_RuneWidth.f
  repeat' first
      | (with_reducible exact ih0 _ _)
      | (with_reducible exact ih1 _ _)
      | (with_reducible exact ih2 _ _)
      | (with_reducible exact ih3 _ _)
      | (with_reducible exact LeO.refl _)
      | (with_reducible exact LeO.none _)
      | (with_reducible refine LeO.ite ?_ ?_)
      | (with_reducible refine LeO.bind ?_ (fun _ => ?_))
      | exact ih0 _ _
      | exact ih1 _ _
      | exact ih2 _ _
      | exact ih3 _ _
      | exact LeO.none _
      | refine LeO.ite ?_ ?_
      | refine LeO.bind ?_ (fun _ => ?_)
set_option maxHeartbeats 8000000 in
set_option maxRecDepth 100000 in
theorem xstrings_RuneWidth.calls (k : Nat) (a0 : Int) (r : Int) (w : World) (h : xstrings_RuneWidth.f k a0 = some r) :
    Calls Try.prog 12 #[.int .i32 a0] w fun e w' => e = .returned (.int .i64 r) ∧ Drawn0 w w' := by
  have H : (if a0 = 65533 then (xstrings_RuneWidth.j0 k a0 true) else (xstrings_RuneWidth.j0 k a0 (decide (a0 < 32)))) = some r := h
  clear h
  have HC2 := Aside0.mk H
  clear H
  go_enter Try.func12, Try.ntmps12
  go_upto_region 1 with (fail)
  go_cut [3] (fun v3 wc => ∃ (kq : Nat) (x3_1 : Bool), v3 = .bool x3_1 ∧ Aside0 (xstrings_RuneWidth.j0 kq a0 x3_1 = some r) ∧ Aside0 (kq ≤ k) ∧ Drawn0 w wc)
  case first =>
    have H := HC2.out
    clear HC2
    by_cases c3 : a0 = 65533
    · rw [if_pos c3] at H
      have c3b0 : (a0 == 65533) = true := beq_iff_eq.mpr c3
      have c3b1 : (a0 != 65533) = false := bne_eq_false_iff_eq.mpr c3
      clear c3
      (first | rw [c3b0] | (simp only [i64_w, i32_w]; rw [c3b0]) | skip)
      have H' := Aside0.mk H
      clear H
      go_wp2
      go_meet
      case rel => exact ⟨_, (true), (by first | rfl | (simp; done) | (simp [*]; done)), H', ⟨by first | omega | exact Nat.le_refl _⟩, by repeat (first | exact Drawn0.refl _ | apply Drawn0.step)⟩
    · rw [if_neg c3] at H
      have c3b0 : (a0 == 65533) = false := beq_eq_false_iff_ne.mpr c3
      have c3b1 : (a0 != 65533) = true := bne_iff_ne.mpr c3
      (first | rw [c3b0] | (simp only [i64_w, i32_w]; rw [c3b0]) | skip)
      have H' := Aside0.mk H
      clear H
      go_wp2
      go_meet
      case rel => exact ⟨_, (decide (a0 < 32)), (by first | rfl | (simp; done) | (simp [*]; done)), H', ⟨by first | omega | exact Nat.le_refl _⟩, by repeat (first | exact Drawn0.refl _ | apply Drawn0.step)⟩
  case rest =>
    clear HC2
    try clear c1
    try clear p2
    try clear c3
    try clear c3b0
    try clear c3b1
    obtain ⟨kq, x3_1, rfl, HA, HJ1, ⟨mc1, rfl⟩⟩ := hcut
    cases kq with
    | zero => exact absurd HA.out (by simp [xstrings_RuneWidth.j0])
    | succ kj1 =>
      have H := HA.out
      clear HA
      simp only [xstrings_RuneWidth.j0] at H
      by_cases c4 : x3_1 = true
      · subst c4
        have H1 : (some 0) = some r := by rw [if_pos rfl] at H; exact H
        clear H
        have H := H1
        clear H1
        obtain rfl := Option.some.inj H
        go_wp2
        go_ret
        exact ⟨by first | rfl | (simp; done) | (simp [*]; done), by repeat (first | exact Drawn0.refl _ | apply Drawn0.step)⟩
      · replace c4 := Bool.eq_false_iff.mpr c4
        subst c4
        have H1 : (if 32 ≤ a0 then (xstrings_RuneWidth.j1 kj1 a0 (decide (a0 < 8192))) else (xstrings_RuneWidth.j1 kj1 a0 false)) = some r := by rw [if_neg (show ¬ (false = true) by decide)] at H; exact H
        clear H
        have H := H1
        clear H1
        have HC5 := Aside0.mk H
        clear H
        go_upto_region 3 with (fail)
        go_cut [10] (fun v10 wc => ∃ (kq : Nat) (x10_4 : Bool), v10 = .bool x10_4 ∧ Aside0 (xstrings_RuneWidth.j1 kq a0 x10_4 = some r) ∧ Aside0 (kq ≤ kj1) ∧ Drawn0 w wc)
        case first =>
          have H := HC5.out
          clear HC5
          by_cases c6 : 32 ≤ a0
          · rw [if_pos c6] at H
            have c6b0 : decide (32 ≤ a0) = true := decide_eq_true c6
            clear c6
            (first | rw [c6b0] | (simp only [i64_w, i32_w]; rw [c6b0]) | skip)
            have H' := Aside0.mk H
            clear H
            go_wp2
            go_meet
            case rel => exact ⟨_, (decide (a0 < 8192)), (by first | rfl | (simp; done) | (simp [*]; done)), H', ⟨by have := HJ1.out; first | omega | exact Nat.le_refl _⟩, by repeat (first | exact Drawn0.refl _ | apply Drawn0.step)⟩
          · rw [if_neg c6] at H
            have c6b0 : decide (32 ≤ a0) = false := decide_eq_false c6
            clear c6
            (first | rw [c6b0] | (simp only [i64_w, i32_w]; rw [c6b0]) | skip)
            have H' := Aside0.mk H
            clear H
            go_wp2
            go_meet
            case rel => exact ⟨_, (false), (by first | rfl | (simp; done) | (simp [*]; done)), H', ⟨by have := HJ1.out; first | omega | exact Nat.le_refl _⟩, by repeat (first | exact Drawn0.refl _ | apply Drawn0.step)⟩
        case rest =>
          clear HC5
          try clear c1
          try clear p2
          try clear c3
          try clear c3b0
          try clear c3b1
          try clear c4
          try clear c6
          try clear c6b0
          try clear p2
          obtain ⟨kq, x10_4, rfl, HA, HJ4, ⟨mc4, rfl⟩⟩ := hcut
          cases kq with
          | zero => exact absurd HA.out (by simp [xstrings_RuneWidth.j1])
          | succ kj4 =>
            have H := HA.out
            clear HA
            simp only [xstrings_RuneWidth.j1] at H
            by_cases c7 : x10_4 = true
            · subst c7
              have H1 : (some 1) = some r := by rw [if_pos rfl] at H; exact H
              clear H
              have H := H1
              clear H1
              obtain rfl := Option.some.inj H
              go_wp2
              go_ret
              exact ⟨by first | rfl | (simp; done) | (simp [*]; done), by repeat (first | exact Drawn0.refl _ | apply Drawn0.step)⟩
            · replace c7 := Bool.eq_false_iff.mpr c7
              subst c7
              have H1 : (if 8192 ≤ a0 then (xstrings_RuneWidth.j2 kj4 a0 (decide (a0 < 65377))) else (xstrings_RuneWidth.j2 kj4 a0 false)) = some r := by rw [if_neg (show ¬ (false = true) by decide)] at H; exact H
              clear H
              have H := H1
              clear H1
              have HC8 := Aside0.mk H
              clear H
              go_upto_region 5 with (fail)
              go_cut [17] (fun v17 wc => ∃ (kq : Nat) (x17_7 : Bool), v17 = .bool x17_7 ∧ Aside0 (xstrings_RuneWidth.j2 kq a0 x17_7 = some r) ∧ Aside0 (kq ≤ kj4) ∧ Drawn0 w wc)
              case first =>
                have H := HC8.out
                clear HC8
                by_cases c9 : 8192 ≤ a0
                · rw [if_pos c9] at H
                  have c9b0 : decide (8192 ≤ a0) = true := decide_eq_true c9
                  clear c9
                  (first | rw [c9b0] | (simp only [i64_w, i32_w]; rw [c9b0]) | skip)
                  have H' := Aside0.mk H
                  clear H
                  go_wp2
                  go_meet
                  case rel => exact ⟨_, (decide (a0 < 65377)), (by first | rfl | (simp; done) | (simp [*]; done)), H', ⟨by have := HJ1.out; have := HJ4.out; first | omega | exact Nat.le_refl _⟩, by repeat (first | exact Drawn0.refl _ | apply Drawn0.step)⟩
                · rw [if_neg c9] at H
                  have c9b0 : decide (8192 ≤ a0) = false := decide_eq_false c9
                  clear c9
                  (first | rw [c9b0] | (simp only [i64_w, i32_w]; rw [c9b0]) | skip)
                  have H' := Aside0.mk H
                  clear H
                  go_wp2
                  go_meet
                  case rel => exact ⟨_, (false), (by first | rfl | (simp; done) | (simp [*]; done)), H', ⟨by have := HJ1.out; have := HJ4.out; first | omega | exact Nat.le_refl _⟩, by repeat (first | exact Drawn0.refl _ | apply Drawn0.step)⟩
              case rest =>
                clear HC8
                try clear c1
                try clear p2
                try clear c3
                try clear c3b0
                try clear c3b1
                try clear c4
                try clear c6
                try clear c6b0
                try clear c7
                try clear c9
                try clear c9b0
                try clear p2
                obtain ⟨kq, x17_7, rfl, HA, HJ7, ⟨mc7, rfl⟩⟩ := hcut
                cases kq with
                | zero => exact absurd HA.out (by simp [xstrings_RuneWidth.j2])
                | succ kj7 =>
                  have H := HA.out
                  clear HA
                  simp only [xstrings_RuneWidth.j2] at H
                  by_cases c10 : x17_7 = true
                  · subst c10
                    have H1 : (some 2) = some r := by rw [if_pos rfl] at H; exact H
                    clear H
                    have H := H1
                    clear H1
                    obtain rfl := Option.some.inj H
                    go_wp2
                    go_ret
                    exact ⟨by first | rfl | (simp; done) | (simp [*]; done), by repeat (first | exact Drawn0.refl _ | apply Drawn0.step)⟩
                  · replace c10 := Bool.eq_false_iff.mpr c10
                    subst c10
                    have H1 : (if 65377 ≤ a0 then (xstrings_RuneWidth.j3 kj7 a0 (decide (a0 < 65440))) else (xstrings_RuneWidth.j3 kj7 a0 false)) = some r := by rw [if_neg (show ¬ (false = true) by decide)] at H; exact H
                    clear H
                    have H := H1
                    clear H1
                    have HC11 := Aside0.mk H
                    clear H
                    go_upto_region 7 with (fail)
                    go_cut [24] (fun v24 wc => ∃ (kq : Nat) (x24_10 : Bool), v24 = .bool x24_10 ∧ Aside0 (xstrings_RuneWidth.j3 kq a0 x24_10 = some r) ∧ Aside0 (kq ≤ kj7) ∧ Drawn0 w wc)
                    case first =>
                      have H := HC11.out
                      clear HC11
                      by_cases c12 : 65377 ≤ a0
                      · rw [if_pos c12] at H
                        have c12b0 : decide (65377 ≤ a0) = true := decide_eq_true c12
                        clear c12
                        (first | rw [c12b0] | (simp only [i64_w, i32_w]; rw [c12b0]) | skip)
                        have H' := Aside0.mk H
                        clear H
                        go_wp2
                        go_meet
                        case rel => exact ⟨_, (decide (a0 < 65440)), (by first | rfl | (simp; done) | (simp [*]; done)), H', ⟨by have := HJ1.out; have := HJ4.out; have := HJ7.out; first | omega | exact Nat.le_refl _⟩, by repeat (first | exact Drawn0.refl _ | apply Drawn0.step)⟩
                      · rw [if_neg c12] at H
                        have c12b0 : decide (65377 ≤ a0) = false := decide_eq_false c12
                        clear c12
                        (first | rw [c12b0] | (simp only [i64_w, i32_w]; rw [c12b0]) | skip)
                        have H' := Aside0.mk H
                        clear H
                        go_wp2
                        go_meet
                        case rel => exact ⟨_, (false), (by first | rfl | (simp; done) | (simp [*]; done)), H', ⟨by have := HJ1.out; have := HJ4.out; have := HJ7.out; first | omega | exact Nat.le_refl _⟩, by repeat (first | exact Drawn0.refl _ | apply Drawn0.step)⟩
                    case rest =>
                      clear HC11
                      try clear c1
                      try clear p2
                      try clear c3
                      try clear c3b0
                      try clear c3b1
                      try clear c4
                      try clear c6
                      try clear c6b0
                      try clear c7
                      try clear c9
                      try clear c9b0
                      try clear c10
                      try clear c12
                      try clear c12b0
                      try clear p2
                      obtain ⟨kq, x24_10, rfl, HA, HJ10, ⟨mc10, rfl⟩⟩ := hcut
                      cases kq with
                      | zero => exact absurd HA.out (by simp [xstrings_RuneWidth.j3])
                      | succ kj10 =>
                        have H := HA.out
                        clear HA
                        simp only [xstrings_RuneWidth.j3] at H
                        by_cases c13 : x24_10 = true
                        · subst c13
                          have H1 : (some 1) = some r := by rw [if_pos rfl] at H; exact H
                          clear H
                          have H := H1
                          clear H1
                          obtain rfl := Option.some.inj H
                          go_wp2
                          go_ret
                          exact ⟨by first | rfl | (simp; done) | (simp [*]; done), by repeat (first | exact Drawn0.refl _ | apply Drawn0.step)⟩
                        · replace c13 := Bool.eq_false_iff.mpr c13
                          subst c13
                          have H1 : (if 65440 ≤ a0 then (some 2) else (some 0)) = some r := by rw [if_neg (show ¬ (false = true) by decide)] at H; exact H
                          clear H
                          have H := H1
                          clear H1
                          by_cases c14 : 65440 ≤ a0
                          · rw [if_pos c14] at H
                            have c14b0 : decide (65440 ≤ a0) = true := decide_eq_true c14
                            clear c14
                            obtain rfl := Option.some.inj H
                            go_wp2
                            go_ret
                            exact ⟨by first | rfl | (simp; done) | (simp [*]; done), by repeat (first | exact Drawn0.refl _ | apply Drawn0.step)⟩
                          · rw [if_neg c14] at H
                            have c14b0 : decide (65440 ≤ a0) = false := decide_eq_false c14
                            clear c14
                            obtain rfl := Option.some.inj H
                            go_wp2
                            go_ret
                            exact ⟨by first | rfl | (simp; done) | (simp [*]; done), by repeat (first | exact Drawn0.refl _ | apply Drawn0.step)⟩

/-! ### impl_RuneWidth: function 6 -/
def impl_RuneWidth.f (k : Nat) (a0 : Int) : Option (Int) := (xstrings_RuneWidth.f k a0).bind fun t101 => (some t101)
theorem impl_RuneWidth.mono : ∀ a0 k, LeO (impl_RuneWidth.f k a0) (impl_RuneWidth.f (k + 1) a0) := by
  intro a0 k
  unfold impl_RuneWidth.f
  repeat' first
      | (with_reducible exact xstrings_RuneWidth.mono _ _)
      | (with_reducible exact LeO.refl _)
      | (with_reducible exact LeO.none _)
      | (with_reducible refine LeO.ite ?_ ?_)
      | (with_reducible refine LeO.bind ?_ (fun _ => ?_))
      | exact xstrings_RuneWidth.mono _ _
      | exact LeO.none _
      | refine LeO.ite ?_ ?_
      | refine LeO.bind ?_ (fun _ => ?_)
set_option maxHeartbeats 8000000 in
set_option maxRecDepth 100000 in
theorem impl_RuneWidth.calls (k : Nat) (a0 : Int) (r : Int) (w : World) (h : impl_RuneWidth.f k a0 = some r) :
    Calls Try.prog 6 #[.int .i32 a0] w fun e w' => e = .returned (.int .i64 r) ∧ Drawn0 w w' := by
  have H : ((xstrings_RuneWidth.f k a0).bind fun t101 => (some t101)) = some r := h
  clear h
  replace H := Option.bind_eq_some_iff.mp H
  obtain ⟨t101, A20, H⟩ := H
  replace H : (some t101) = some r := H
  have A2 := Aside0.mk A20
  clear A20
  obtain rfl := Option.some.inj H
  go_enter Try.func6, Try.ntmps6
  go_wp2_with (first | ((with_reducible refine gate_callee (f := 12) rfl ?_); refine goesL_ (some 4) rfl rfl Try.func12 (by kernel_rfl) rfl #[.int .i32 a0] rfl (by (try simp only [List.map_toArray, List.map_cons, List.map_nil]); first | done | rfl | (simp only [List.length_drop, List.length_take]; rfl)) ?_; (with_reducible refine (xstrings_RuneWidth.calls k a0 t101 _ A2.out).mono ?_); rintro e w' ⟨rfl, ⟨nd, rfl⟩⟩; refine ⟨_, rfl, ?_⟩))
  go_ret
  exact ⟨by first | rfl | (simp; done) | (simp [*]; done), by repeat (first | exact Drawn0.refl _ | apply Drawn0.step)⟩

/-! ### spec_RuneWidth: function 7 -/
def spec_RuneWidth.j0 : Nat → Int → Bool → Option (Int × Int)
  | 0, _, _ => none
  | k + 1, x0, x4 => if x4 = true then (some (0, 2)) else (if x0 ≤ 25 then (some (0, 1)) else (if x0 ≤ 8191 then (some (1, 1)) else (if x0 ≥ 65377 then (if x0 ≤ 65439 then (some (1, 1)) else (some (2, 1))) else (some (2, 1)))))
def spec_RuneWidth.f (k : Nat) (a0 : Int) : Option (Int × Int) := if a0 < 0 then (spec_RuneWidth.j0 k a0 true) else (if a0 > 1114111 then (spec_RuneWidth.j0 k a0 true) else (if a0 ≥ 55296 then (if a0 ≤ 57343 then (spec_RuneWidth.j0 k a0 true) else (if a0 = 65533 then (spec_RuneWidth.j0 k a0 true) else (if a0 ≥ 26 then (spec_RuneWidth.j0 k a0 (decide (a0 ≤ 31))) else (spec_RuneWidth.j0 k a0 false)))) else (if a0 = 65533 then (spec_RuneWidth.j0 k a0 true) else (if a0 ≥ 26 then (spec_RuneWidth.j0 k a0 (decide (a0 ≤ 31))) else (spec_RuneWidth.j0 k a0 false)))))
theorem spec_RuneWidth.mono_l : ∀ k, (∀ y0 y1, LeO (spec_RuneWidth.j0 k y0 y1) (spec_RuneWidth.j0 (k + 1) y0 y1))
  | 0 => fun _ _ r h => by simp [spec_RuneWidth.j0] at h
  | k + 1 => by
    have ih0 := spec_RuneWidth.mono_l k
    · intro y0 y1
      unfold spec_RuneWidth.j0
      repeat' first
      | (with_reducible exact ih0 _ _)
      | (with_reducible exact LeO.refl _)
      | (with_reducible exact LeO.none _)
      | (with_reducible refine LeO.ite ?_ ?_)
      | (with_reducible refine LeO.bind ?_ (fun _ => ?_))
      | exact ih0 _ _
      | exact LeO.none _
      | refine LeO.ite ?_ ?_
      | refine LeO.bind ?_ (fun _ => ?_)
theorem spec_RuneWidth.mono : ∀ a0 k, LeO (spec_RuneWidth.f k a0) (spec_RuneWidth.f (k + 1) a0) := by
  intro a0 k
  have ih0 := spec_RuneWidth.mono_l k
  unfold spec_RuneWidth.f
  repeat' first
      | (with_reducible exact ih0 _ _)
      | (with_reducible exact LeO.refl _)
      | (with_reducible exact LeO.none _)
      | (with_reducible refine LeO.ite ?_ ?_)
      | (with_reducible refine LeO.bind ?_ (fun _ => ?_))
      | exact ih0 _ _
      | exact LeO.none _
      | refine LeO.ite ?_ ?_
      | refine LeO.bind ?_ (fun _ => ?_)
set_option maxHeartbeats 8000000 in
set_option maxRecDepth 100000 in
theorem spec_RuneWidth.calls (k : Nat) (a0 : Int) (r1 : Int) (r2 : Int) (w : World) (h : spec_RuneWidth.f k a0 = some (r1, r2)) :
    Calls Try.prog 7 #[.int .i32 a0] w fun e w' => e = .returned (.tuple #[.int .i64 r1, .int .i64 r2]) ∧ Drawn0 w w' := by
  have H : (if a0 < 0 then (spec_RuneWidth.j0 k a0 true) else (if a0 > 1114111 then (spec_RuneWidth.j0 k a0 true) else (if a0 ≥ 55296 then (if a0 ≤ 57343 then (spec_RuneWidth.j0 k a0 true) else (if a0 = 65533 then (spec_RuneWidth.j0 k a0 true) else (if a0 ≥ 26 then (spec_RuneWidth.j0 k a0 (decide (a0 ≤ 31))) else (spec_RuneWidth.j0 k a0 false)))) else (if a0 = 65533 then (spec_RuneWidth.j0 k a0 true) else (if a0 ≥ 26 then (spec_RuneWidth.j0 k a0 (decide (a0 ≤ 31))) else (spec_RuneWidth.j0 k a0 false)))))) = some (r1, r2) := h
  clear h
  have HC2 := Aside0.mk H
  clear H
  go_enter Try.func7, Try.ntmps7
  go_upto_region 1 with (fail)
  go_cut [4] (fun v4 wc => ∃ (kq : Nat) (x4_1 : Bool), v4 = .bool x4_1 ∧ Aside0 (spec_RuneWidth.j0 kq a0 x4_1 = some (r1, r2)) ∧ Aside0 (kq ≤ k) ∧ Drawn0 w wc)
  case first =>
    have H := HC2.out
    clear HC2
    by_cases c3 : a0 < 0
    · rw [if_pos c3] at H
      have c3b0 : decide (a0 < 0) = true := decide_eq_true c3
      clear c3
      (first | rw [c3b0] | (simp only [i64_w, i32_w]; rw [c3b0]) | skip)
      have H' := Aside0.mk H
      clear H
      go_wp2
      go_meet
      case rel => exact ⟨_, (true), (by first | rfl | (simp; done) | (simp [*]; done)), H', ⟨by first | omega | exact Nat.le_refl _⟩, by repeat (first | exact Drawn0.refl _ | apply Drawn0.step)⟩
    · rw [if_neg c3] at H
      have c3b0 : decide (a0 < 0) = false := decide_eq_false c3
      clear c3
      (first | rw [c3b0] | (simp only [i64_w, i32_w]; rw [c3b0]) | skip)
      by_cases c4 : a0 > 1114111
      · rw [if_pos c4] at H
        have c4b0 : decide (1114111 < a0) = true := decide_eq_true c4
        clear c4
        have H' := Aside0.mk H
        clear H
        go_wp2
        go_meet
        case rel => exact ⟨_, (true), (by first | rfl | (simp; done) | (simp [*]; done)), H', ⟨by first | omega | exact Nat.le_refl _⟩, by repeat (first | exact Drawn0.refl _ | apply Drawn0.step)⟩
      · rw [if_neg c4] at H
        have c4b0 : decide (1114111 < a0) = false := decide_eq_false c4
        clear c4
        by_cases c5 : a0 ≥ 55296
        · rw [if_pos c5] at H
          have c5b0 : decide (55296 ≤ a0) = true := decide_eq_true c5
          clear c5
          by_cases c6 : a0 ≤ 57343
          · rw [if_pos c6] at H
            have c6b0 : decide (a0 ≤ 57343) = true := decide_eq_true c6
            clear c6
            have H' := Aside0.mk H
            clear H
            go_wp2
            go_meet
            case rel => exact ⟨_, (true), (by first | rfl | (simp; done) | (simp [*]; done)), H', ⟨by first | omega | exact Nat.le_refl _⟩, by repeat (first | exact Drawn0.refl _ | apply Drawn0.step)⟩
          · rw [if_neg c6] at H
            have c6b0 : decide (a0 ≤ 57343) = false := decide_eq_false c6
            clear c6
            by_cases c7 : a0 = 65533
            · rw [if_pos c7] at H
              have c7b0 : (a0 == 65533) = true := beq_iff_eq.mpr c7
              have c7b1 : (a0 != 65533) = false := bne_eq_false_iff_eq.mpr c7
              clear c7
              have H' := Aside0.mk H
              clear H
              go_wp2
              go_meet
              case rel => exact ⟨_, (true), (by first | rfl | (simp; done) | (simp [*]; done)), H', ⟨by first | omega | exact Nat.le_refl _⟩, by repeat (first | exact Drawn0.refl _ | apply Drawn0.step)⟩
            · rw [if_neg c7] at H
              have c7b0 : (a0 == 65533) = false := beq_eq_false_iff_ne.mpr c7
              have c7b1 : (a0 != 65533) = true := bne_iff_ne.mpr c7
              by_cases c8 : a0 ≥ 26
              · rw [if_pos c8] at H
                have c8b0 : decide (26 ≤ a0) = true := decide_eq_true c8
                clear c8
                have H' := Aside0.mk H
                clear H
                go_wp2
                go_meet
                case rel => exact ⟨_, (decide (a0 ≤ 31)), (by first | rfl | (simp; done) | (simp [*]; done)), H', ⟨by first | omega | exact Nat.le_refl _⟩, by repeat (first | exact Drawn0.refl _ | apply Drawn0.step)⟩
              · rw [if_neg c8] at H
                have c8b0 : decide (26 ≤ a0) = false := decide_eq_false c8
                clear c8
                have H' := Aside0.mk H
                clear H
                go_wp2
                go_meet
                case rel => exact ⟨_, (false), (by first | rfl | (simp; done) | (simp [*]; done)), H', ⟨by first | omega | exact Nat.le_refl _⟩, by repeat (first | exact Drawn0.refl _ | apply Drawn0.step)⟩
        · rw [if_neg c5] at H
          have c5b0 : decide (55296 ≤ a0) = false := decide_eq_false c5
          clear c5
          by_cases c9 : a0 = 65533
          · rw [if_pos c9] at H
            have c9b0 : (a0 == 65533) = true := beq_iff_eq.mpr c9
            have c9b1 : (a0 != 65533) = false := bne_eq_false_iff_eq.mpr c9
            clear c9
            have H' := Aside0.mk H
            clear H
            go_wp2
            go_meet
            case rel => exact ⟨_, (true), (by first | rfl | (simp; done) | (simp [*]; done)), H', ⟨by first | omega | exact Nat.le_refl _⟩, by repeat (first | exact Drawn0.refl _ | apply Drawn0.step)⟩
          · rw [if_neg c9] at H
            have c9b0 : (a0 == 65533) = false := beq_eq_false_iff_ne.mpr c9
            have c9b1 : (a0 != 65533) = true := bne_iff_ne.mpr c9
            by_cases c10 : a0 ≥ 26
            · rw [if_pos c10] at H
              have c10b0 : decide (26 ≤ a0) = true := decide_eq_true c10
              clear c10
              have H' := Aside0.mk H
              clear H
              go_wp2
              go_meet
              case rel => exact ⟨_, (decide (a0 ≤ 31)), (by first | rfl | (simp; done) | (simp [*]; done)), H', ⟨by first | omega | exact Nat.le_refl _⟩, by repeat (first | exact Drawn0.refl _ | apply Drawn0.step)⟩
            · rw [if_neg c10] at H
              have c10b0 : decide (26 ≤ a0) = false := decide_eq_false c10
              clear c10
              have H' := Aside0.mk H
              clear H
              go_wp2
              go_meet
              case rel => exact ⟨_, (false), (by first | rfl | (simp; done) | (simp [*]; done)), H', ⟨by first | omega | exact Nat.le_refl _⟩, by repeat (first | exact Drawn0.refl _ | apply Drawn0.step)⟩
  case rest =>
    clear HC2
    try clear c1
    try clear p2
    try clear c3
    try clear c3b0
    try clear c4
    try clear c4b0
    try clear c5
    try clear c5b0
    try clear c6
    try clear c6b0
    try clear c7
    try clear c7b0
    try clear c7b1
    try clear c8
    try clear c8b0
    try clear c9
    try clear c9b0
    try clear c9b1
    try clear c10
    try clear c10b0
    obtain ⟨kq, x4_1, rfl, HA, HJ1, ⟨mc1, rfl⟩⟩ := hcut
    cases kq with
    | zero => exact absurd HA.out (by simp [spec_RuneWidth.j0])
    | succ kj1 =>
      have H := HA.out
      clear HA
      simp only [spec_RuneWidth.j0] at H
      by_cases c11 : x4_1 = true
      · subst c11
        have H1 : (some (0, 2)) = some (r1, r2) := by rw [if_pos rfl] at H; exact H
        clear H
        have H := H1
        clear H1
        simp only [Option.some.injEq, Prod.mk.injEq] at H
        obtain ⟨rfl, rfl⟩ := H
        go_wp2
        go_ret2
        exact ⟨by first | rfl | (simp; done) | (simp [*]; done), by repeat (first | exact Drawn0.refl _ | apply Drawn0.step)⟩
      · replace c11 := Bool.eq_false_iff.mpr c11
        subst c11
        have H1 : (if a0 ≤ 25 then (some (0, 1)) else (if a0 ≤ 8191 then (some (1, 1)) else (if a0 ≥ 65377 then (if a0 ≤ 65439 then (some (1, 1)) else (some (2, 1))) else (some (2, 1))))) = some (r1, r2) := by rw [if_neg (show ¬ (false = true) by decide)] at H; exact H
        clear H
        have H := H1
        clear H1
        by_cases c12 : a0 ≤ 25
        · rw [if_pos c12] at H
          have c12b0 : decide (a0 ≤ 25) = true := decide_eq_true c12
          clear c12
          simp only [Option.some.injEq, Prod.mk.injEq] at H
          obtain ⟨rfl, rfl⟩ := H
          go_wp2
          go_ret2
          exact ⟨by first | rfl | (simp; done) | (simp [*]; done), by repeat (first | exact Drawn0.refl _ | apply Drawn0.step)⟩
        · rw [if_neg c12] at H
          have c12b0 : decide (a0 ≤ 25) = false := decide_eq_false c12
          clear c12
          by_cases c13 : a0 ≤ 8191
          · rw [if_pos c13] at H
            have c13b0 : decide (a0 ≤ 8191) = true := decide_eq_true c13
            clear c13
            simp only [Option.some.injEq, Prod.mk.injEq] at H
            obtain ⟨rfl, rfl⟩ := H
            go_wp2
            go_ret2
            exact ⟨by first | rfl | (simp; done) | (simp [*]; done), by repeat (first | exact Drawn0.refl _ | apply Drawn0.step)⟩
          · rw [if_neg c13] at H
            have c13b0 : decide (a0 ≤ 8191) = false := decide_eq_false c13
            clear c13
            by_cases c14 : a0 ≥ 65377
            · rw [if_pos c14] at H
              have c14b0 : decide (65377 ≤ a0) = true := decide_eq_true c14
              clear c14
              by_cases c15 : a0 ≤ 65439
              · rw [if_pos c15] at H
                have c15b0 : decide (a0 ≤ 65439) = true := decide_eq_true c15
                clear c15
                simp only [Option.some.injEq, Prod.mk.injEq] at H
                obtain ⟨rfl, rfl⟩ := H
                go_wp2
                go_ret2
                exact ⟨by first | rfl | (simp; done) | (simp [*]; done), by repeat (first | exact Drawn0.refl _ | apply Drawn0.step)⟩
              · rw [if_neg c15] at H
                have c15b0 : decide (a0 ≤ 65439) = false := decide_eq_false c15
                clear c15
                simp only [Option.some.injEq, Prod.mk.injEq] at H
                obtain ⟨rfl, rfl⟩ := H
                go_wp2
                go_ret2
                exact ⟨by first | rfl | (simp; done) | (simp [*]; done), by repeat (first | exact Drawn0.refl _ | apply Drawn0.step)⟩
            · rw [if_neg c14] at H
              have c14b0 : decide (65377 ≤ a0) = false := decide_eq_false c14
              clear c14
              simp only [Option.some.injEq, Prod.mk.injEq] at H
              obtain ⟨rfl, rfl⟩ := H
              go_wp2
              go_ret2
              exact ⟨by first | rfl | (simp; done) | (simp [*]; done), by repeat (first | exact Drawn0.refl _ | apply Drawn0.step)⟩

/-! ### laws_FnRuneWidth: function 3 -/
def laws_FnRuneWidth.f (k : Nat) (a0 : Int) : Option (Bool) := (impl_RuneWidth.f k 20013).bind fun t102 => (if t102 = 2 then (if a0 < 0 then (some true) else ((spec_RuneWidth.f k a0).bind fun bt103 => ((impl_RuneWidth.f k a0).bind fun t105 => (if t105 ≥ 0 then (if t105 ≤ 2 then (if bt103.2 = 1 then (some (t105 == bt103.1)) else (some true)) else (some false)) else (some false))))) else (some false))
theorem laws_FnRuneWidth.mono : ∀ a0 k, LeO (laws_FnRuneWidth.f k a0) (laws_FnRuneWidth.f (k + 1) a0) := by
  intro a0 k
  unfold laws_FnRuneWidth.f
  repeat' first
      | (with_reducible exact impl_RuneWidth.mono _ _)
      | (with_reducible exact spec_RuneWidth.mono _ _)
      | (with_reducible exact LeO.refl _)
      | (with_reducible exact LeO.none _)
      | (with_reducible refine LeO.ite ?_ ?_)
      | (with_reducible refine LeO.bind ?_ (fun _ => ?_))
      | exact impl_RuneWidth.mono _ _
      | exact spec_RuneWidth.mono _ _
      | exact LeO.none _
      | refine LeO.ite ?_ ?_
      | refine LeO.bind ?_ (fun _ => ?_)
set_option maxHeartbeats 8000000 in
set_option maxRecDepth 100000 in
theorem laws_FnRuneWidth.calls (k : Nat) (a0 : Int) (r : Bool) (w : World) (h : laws_FnRuneWidth.f k a0 = some r) :
    Calls Try.prog 3 #[.int .i32 a0] w fun e w' => e = .returned (.bool r) ∧ Drawn0 w w' := by
  have H : ((impl_RuneWidth.f k 20013).bind fun t102 => (if t102 = 2 then (if a0 < 0 then (some true) else ((spec_RuneWidth.f k a0).bind fun bt103 => ((impl_RuneWidth.f k a0).bind fun t105 => (if t105 ≥ 0 then (if t105 ≤ 2 then (if bt103.2 = 1 then (some (t105 == bt103.1)) else (some true)) else (some false)) else (some false))))) else (some false))) = some r := h
  clear h
  replace H := Option.bind_eq_some_iff.mp H
  obtain ⟨t102, A20, H⟩ := H
  replace H : (if t102 = 2 then (if a0 < 0 then (some true) else ((spec_RuneWidth.f k a0).bind fun bt103 => ((impl_RuneWidth.f k a0).bind fun t105 => (if t105 ≥ 0 then (if t105 ≤ 2 then (if bt103.2 = 1 then (some (t105 == bt103.1)) else (some true)) else (some false)) else (some false))))) else (some false)) = some r := H
  have A2 := Aside0.mk A20
  clear A20
  by_cases c3 : t102 = 2
  · rw [if_pos c3] at H
    have c3b0 : (t102 == 2) = true := beq_iff_eq.mpr c3
    have c3b1 : (t102 != 2) = false := bne_eq_false_iff_eq.mpr c3
    clear c3
    by_cases c4 : a0 < 0
    · rw [if_pos c4] at H
      have c4b0 : decide (a0 < 0) = true := decide_eq_true c4
      clear c4
      obtain rfl := Option.some.inj H
      go_enter Try.func3, Try.ntmps3
      go_wp2_with (first | ((with_reducible refine gate_callee (f := 6) rfl ?_); refine goesL_ (some 6) rfl rfl Try.func6 (by kernel_rfl) rfl #[.int .i32 20013] rfl (by (try simp only [List.map_toArray, List.map_cons, List.map_nil]); first | done | rfl | (simp only [List.length_drop, List.length_take]; rfl)) ?_; (with_reducible refine (impl_RuneWidth.calls k 20013 t102 _ A2.out).mono ?_); rintro e w' ⟨rfl, ⟨nd, rfl⟩⟩; refine ⟨_, rfl, ?_⟩))
      go_ret
      exact ⟨by first | rfl | (simp; done) | (simp [*]; done), by repeat (first | exact Drawn0.refl _ | apply Drawn0.step)⟩
    · rw [if_neg c4] at H
      have c4b0 : decide (a0 < 0) = false := decide_eq_false c4
      clear c4
      replace H := Option.bind_eq_some_iff.mp H
      obtain ⟨⟨t103, t104⟩, A50, H⟩ := H
      replace H : ((impl_RuneWidth.f k a0).bind fun t105 => (if t105 ≥ 0 then (if t105 ≤ 2 then (if t104 = 1 then (some (t105 == t103)) else (some true)) else (some false)) else (some false))) = some r := H
      have A5 := Aside0.mk A50
      clear A50
      replace H := Option.bind_eq_some_iff.mp H
      obtain ⟨t105, A60, H⟩ := H
      replace H : (if t105 ≥ 0 then (if t105 ≤ 2 then (if t104 = 1 then (some (t105 == t103)) else (some true)) else (some false)) else (some false)) = some r := H
      have A6 := Aside0.mk A60
      clear A60
      by_cases c7 : t105 ≥ 0
      · rw [if_pos c7] at H
        have c7b0 : decide (0 ≤ t105) = true := decide_eq_true c7
        clear c7
        by_cases c8 : t105 ≤ 2
        · rw [if_pos c8] at H
          have c8b0 : decide (t105 ≤ 2) = true := decide_eq_true c8
          clear c8
          by_cases c9 : t104 = 1
          · rw [if_pos c9] at H
            have c9b0 : (t104 == 1) = true := beq_iff_eq.mpr c9
            have c9b1 : (t104 != 1) = false := bne_eq_false_iff_eq.mpr c9
            clear c9
            obtain rfl := Option.some.inj H
            go_enter Try.func3, Try.ntmps3
            go_wp2_with (first | ((with_reducible refine gate_callee (f := 6) rfl ?_); refine goesL_ (some 6) rfl rfl Try.func6 (by kernel_rfl) rfl #[.int .i32 20013] rfl (by (try simp only [List.map_toArray, List.map_cons, List.map_nil]); first | done | rfl | (simp only [List.length_drop, List.length_take]; rfl)) ?_; (with_reducible refine (impl_RuneWidth.calls k 20013 t102 _ A2.out).mono ?_); rintro e w' ⟨rfl, ⟨nd, rfl⟩⟩; refine ⟨_, rfl, ?_⟩) | ((with_reducible refine gate_callee (f := 7) rfl ?_); refine goesL_ (some 12) rfl rfl Try.func7 (by kernel_rfl) rfl #[.int .i32 a0] rfl (by (try simp only [List.map_toArray, List.map_cons, List.map_nil]); first | done | rfl | (simp only [List.length_drop, List.length_take]; rfl)) ?_; (with_reducible refine (spec_RuneWidth.calls k a0 t103 t104 _ A5.out).mono ?_); rintro e w' ⟨rfl, ⟨nd, rfl⟩⟩; refine ⟨_, rfl, ?_⟩) | ((with_reducible refine gate_callee (f := 6) rfl ?_); refine goesL_ (some 16) rfl rfl Try.func6 (by kernel_rfl) rfl #[.int .i32 a0] rfl (by (try simp only [List.map_toArray, List.map_cons, List.map_nil]); first | done | rfl | (simp only [List.length_drop, List.length_take]; rfl)) ?_; (with_reducible refine (impl_RuneWidth.calls k a0 t105 _ A6.out).mono ?_); rintro e w' ⟨rfl, ⟨nd, rfl⟩⟩; refine ⟨_, rfl, ?_⟩))
            go_ret
            exact ⟨by first | rfl | (simp; done) | (simp [*]; done), by repeat (first | exact Drawn0.refl _ | apply Drawn0.step)⟩
          · rw [if_neg c9] at H
            have c9b0 : (t104 == 1) = false := beq_eq_false_iff_ne.mpr c9
            have c9b1 : (t104 != 1) = true := bne_iff_ne.mpr c9
            obtain rfl := Option.some.inj H
            go_enter Try.func3, Try.ntmps3
            go_wp2_with (first | ((with_reducible refine gate_callee (f := 6) rfl ?_); refine goesL_ (some 6) rfl rfl Try.func6 (by kernel_rfl) rfl #[.int .i32 20013] rfl (by (try simp only [List.map_toArray, List.map_cons, List.map_nil]); first | done | rfl | (simp only [List.length_drop, List.length_take]; rfl)) ?_; (with_reducible refine (impl_RuneWidth.calls k 20013 t102 _ A2.out).mono ?_); rintro e w' ⟨rfl, ⟨nd, rfl⟩⟩; refine ⟨_, rfl, ?_⟩) | ((with_reducible refine gate_callee (f := 7) rfl ?_); refine goesL_ (some 12) rfl rfl Try.func7 (by kernel_rfl) rfl #[.int .i32 a0] rfl (by (try simp only [List.map_toArray, List.map_cons, List.map_nil]); first | done | rfl | (simp only [List.length_drop, List.length_take]; rfl)) ?_; (with_reducible refine (spec_RuneWidth.calls k a0 t103 t104 _ A5.out).mono ?_); rintro e w' ⟨rfl, ⟨nd, rfl⟩⟩; refine ⟨_, rfl, ?_⟩) | ((with_reducible refine gate_callee (f := 6) rfl ?_); refine goesL_ (some 16) rfl rfl Try.func6 (by kernel_rfl) rfl #[.int .i32 a0] rfl (by (try simp only [List.map_toArray, List.map_cons, List.map_nil]); first | done | rfl | (simp only [List.length_drop, List.length_take]; rfl)) ?_; (with_reducible refine (impl_RuneWidth.calls k a0 t105 _ A6.out).mono ?_); rintro e w' ⟨rfl, ⟨nd, rfl⟩⟩; refine ⟨_, rfl, ?_⟩))
            go_ret
            exact ⟨by first | rfl | (simp; done) | (simp [*]; done), by repeat (first | exact Drawn0.refl _ | apply Drawn0.step)⟩
        · rw [if_neg c8] at H
          have c8b0 : decide (t105 ≤ 2) = false := decide_eq_false c8
          clear c8
          obtain rfl := Option.some.inj H
          go_enter Try.func3, Try.ntmps3
          go_wp2_with (first | ((with_reducible refine gate_callee (f := 6) rfl ?_); refine goesL_ (some 6) rfl rfl Try.func6 (by kernel_rfl) rfl #[.int .i32 20013] rfl (by (try simp only [List.map_toArray, List.map_cons, List.map_nil]); first | done | rfl | (simp only [List.length_drop, List.length_take]; rfl)) ?_; (with_reducible refine (impl_RuneWidth.calls k 20013 t102 _ A2.out).mono ?_); rintro e w' ⟨rfl, ⟨nd, rfl⟩⟩; refine ⟨_, rfl, ?_⟩) | ((with_reducible refine gate_callee (f := 7) rfl ?_); refine goesL_ (some 12) rfl rfl Try.func7 (by kernel_rfl) rfl #[.int .i32 a0] rfl (by (try simp only [List.map_toArray, List.map_cons, List.map_nil]); first | done | rfl | (simp only [List.length_drop, List.length_take]; rfl)) ?_; (with_reducible refine (spec_RuneWidth.calls k a0 t103 t104 _ A5.out).mono ?_); rintro e w' ⟨rfl, ⟨nd, rfl⟩⟩; refine ⟨_, rfl, ?_⟩) | ((with_reducible refine gate_callee (f := 6) rfl ?_); refine goesL_ (some 16) rfl rfl Try.func6 (by kernel_rfl) rfl #[.int .i32 a0] rfl (by (try simp only [List.map_toArray, List.map_cons, List.map_nil]); first | done | rfl | (simp only [List.length_drop, List.length_take]; rfl)) ?_; (with_reducible refine (impl_RuneWidth.calls k a0 t105 _ A6.out).mono ?_); rintro e w' ⟨rfl, ⟨nd, rfl⟩⟩; refine ⟨_, rfl, ?_⟩))
          go_ret
          exact ⟨by first | rfl | (simp; done) | (simp [*]; done), by repeat (first | exact Drawn0.refl _ | apply Drawn0.step)⟩
      · rw [if_neg c7] at H
        have c7b0 : decide (0 ≤ t105) = false := decide_eq_false c7
        clear c7
        obtain rfl := Option.some.inj H
        go_enter Try.func3, Try.ntmps3
        go_wp2_with (first | ((with_reducible refine gate_callee (f := 6) rfl ?_); refine goesL_ (some 6) rfl rfl Try.func6 (by kernel_rfl) rfl #[.int .i32 20013] rfl (by (try simp only [List.map_toArray, List.map_cons, List.map_nil]); first | done | rfl | (simp only [List.length_drop, List.length_take]; rfl)) ?_; (with_reducible refine (impl_RuneWidth.calls k 20013 t102 _ A2.out).mono ?_); rintro e w' ⟨rfl, ⟨nd, rfl⟩⟩; refine ⟨_, rfl, ?_⟩) | ((with_reducible refine gate_callee (f := 7) rfl ?_); refine goesL_ (some 12) rfl rfl Try.func7 (by kernel_rfl) rfl #[.int .i32 a0] rfl (by (try simp only [List.map_toArray, List.map_cons, List.map_nil]); first | done | rfl | (simp only [List.length_drop, List.length_take]; rfl)) ?_; (with_reducible refine (spec_RuneWidth.calls k a0 t103 t104 _ A5.out).mono ?_); rintro e w' ⟨rfl, ⟨nd, rfl⟩⟩; refine ⟨_, rfl, ?_⟩) | ((with_reducible refine gate_callee (f := 6) rfl ?_); refine goesL_ (some 16) rfl rfl Try.func6 (by kernel_rfl) rfl #[.int .i32 a0] rfl (by (try simp only [List.map_toArray, List.map_cons, List.map_nil]); first | done | rfl | (simp only [List.length_drop, List.length_take]; rfl)) ?_; (with_reducible refine (impl_RuneWidth.calls k a0 t105 _ A6.out).mono ?_); rintro e w' ⟨rfl, ⟨nd, rfl⟩⟩; refine ⟨_, rfl, ?_⟩))
        go_ret
        exact ⟨by first | rfl | (simp; done) | (simp [*]; done), by repeat (first | exact Drawn0.refl _ | apply Drawn0.step)⟩
  · rw [if_neg c3] at H
    have c3b0 : (t102 == 2) = false := beq_eq_false_iff_ne.mpr c3
    have c3b1 : (t102 != 2) = true := bne_iff_ne.mpr c3
    obtain rfl := Option.some.inj H
    go_enter Try.func3, Try.ntmps3
    go_wp2_with (first | ((with_reducible refine gate_callee (f := 6) rfl ?_); refine goesL_ (some 6) rfl rfl Try.func6 (by kernel_rfl) rfl #[.int .i32 20013] rfl (by (try simp only [List.map_toArray, List.map_cons, List.map_nil]); first | done | rfl | (simp only [List.length_drop, List.length_take]; rfl)) ?_; (with_reducible refine (impl_RuneWidth.calls k 20013 t102 _ A2.out).mono ?_); rintro e w' ⟨rfl, ⟨nd, rfl⟩⟩; refine ⟨_, rfl, ?_⟩))
    go_ret
    exact ⟨by first | rfl | (simp; done) | (simp [*]; done), by repeat (first | exact Drawn0.refl _ | apply Drawn0.step)⟩

/-- THE ONE PURE STATEMENT of laws_FnRuneWidth: yours. -/
def laws_FnRuneWidth.Pure : Prop := ∀ (a0 : Int), (Lit.int .i32 a0).wf = true → ∃ k, laws_FnRuneWidth.f k a0 = some true
theorem laws_FnRuneWidth.walk (P : laws_FnRuneWidth.Pure) (a0 : Int) (w : World) (w0 : (Lit.int .i32 a0).wf = true) :
    Calls Try.prog 3 #[.int .i32 a0] w fun e w' => e = .returned (.bool true) ∧ Below w.heap.size w w' := by
  obtain ⟨k, h⟩ := P a0 w0
  refine (laws_FnRuneWidth.calls k a0 true w h).mono ?_
  rintro e w' ⟨rfl, hd⟩
  exact ⟨rfl, hd.below⟩

end Go.Proofs.Ytobcoplfniojkaa.PFnRuneWidth
