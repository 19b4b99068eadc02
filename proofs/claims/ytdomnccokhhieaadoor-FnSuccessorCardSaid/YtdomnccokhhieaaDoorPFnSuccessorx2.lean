-- PRINTED BY print.sh 35421559b90ae4d0a3588c463048766b98c2df88dd9212a6774a882060cdf62d: not written by this session
import Derived.Test.YtdomnccokhhieaaDoorPFnSuccessorx0
namespace Go.Proofs.YtdomnccokhhieaaDoor.PFnSuccessor
open Go.RowKit Go.Proofs.YtdomnccokhhieaaDoorW.PrintWords Go.Proofs.YtdomnccokhhieaaDoorW.PrintLast Go.Proofs.YtdomnccokhhieaaDoorW.PrintMore
attribute [local go_sem] max2_int min2_int max_two min_two max_three min_three max_four min_four   -- for this text's walks alone
set_option linter.unusedVariables false
set_option linter.unusedSimpArgs false

/-! ### spec_kind: function 33 -/
def spec_kind.j0 : Nat → Int → Bool → Option (Int)
  | 0, _, _ => none
  | k + 1, x0, x3 => if x3 = true then (some 1) else (if x0 ≥ 97 then (if x0 ≤ 122 then (some 2) else (if x0 ≥ 65 then (if x0 ≤ 90 then (some 2) else (some 0)) else (some 0))) else (if x0 ≥ 65 then (if x0 ≤ 90 then (some 2) else (some 0)) else (some 0)))
def spec_kind.f (k : Nat) (a0 : Int) : Option (Int) := if a0 ≥ 48 then (spec_kind.j0 k a0 (decide (a0 ≤ 57))) else (spec_kind.j0 k a0 false)
theorem spec_kind.mono_l : ∀ k, (∀ y0 y1, LeO (spec_kind.j0 k y0 y1) (spec_kind.j0 (k + 1) y0 y1))
  | 0 => fun _ _ r h => by simp [spec_kind.j0] at h
  | k + 1 => by
    have ih0 := spec_kind.mono_l k
    · intro y0 y1
      unfold spec_kind.j0
      repeat' first
      | (with_reducible exact ih0 _ _)
      | (with_reducible exact LeO.refl _)
      | (with_reducible exact LeO.none _)
      | (with_reducible refine LeO.ite ?_ ?_)
      | (with_reducible refine LeO.bind ?_ (fun _ => ?_))
      | exact ih0 _ _
      | exact LeO.none _
      | refine LeO.ite ?_ ?_
      | refine LeO.bind ?_ (fun _ => ?_)
theorem spec_kind.mono : ∀ a0 k, LeO (spec_kind.f k a0) (spec_kind.f (k + 1) a0) := by
  intro a0 k
  have ih0 := spec_kind.mono_l k
  unfold spec_kind.f
  repeat' first
      | (with_reducible exact ih0 _ _)
      | (with_reducible exact LeO.refl _)
      | (with_reducible exact LeO.none _)
      | (with_reducible refine LeO.ite ?_ ?_)
      | (with_reducible refine LeO.bind ?_ (fun _ => ?_))
      | exact ih0 _ _
      | exact LeO.none _
      | refine LeO.ite ?_ ?_
      | refine LeO.bind ?_ (fun _ => ?_)
set_option maxHeartbeats 8000000 in
set_option maxRecDepth 100000 in
theorem spec_kind.calls (k : Nat) (a0 : Int) (r : Int) (w : World) (h : spec_kind.f k a0 = some r) :
    Calls Tryd.prog 33 #[.int .i32 a0] w fun e w' => e = .returned (.int .i64 r) ∧ Drawn0 w w' := by
  have H : (if a0 ≥ 48 then (spec_kind.j0 k a0 (decide (a0 ≤ 57))) else (spec_kind.j0 k a0 false)) = some r := h
  clear h
  have HC2 := Aside0.mk H
  clear H
  go_enter Tryd.func33, Tryd.ntmps33
  go_upto_region 1 with (fail)
  go_cut [3] (fun v3 wc => ∃ (kq : Nat) (x3_1 : Bool), v3 = .bool x3_1 ∧ Aside0 (spec_kind.j0 kq a0 x3_1 = some r) ∧ Aside0 (kq ≤ k) ∧ Drawn0 w wc)
  case first =>
    have H := HC2.out
    clear HC2
    by_cases c3 : a0 ≥ 48
    · rw [if_pos c3] at H
      have c3b0 : decide (48 ≤ a0) = true := decide_eq_true c3
      clear c3
      (first | rw [c3b0] | (simp only [i64_w, i32_w]; rw [c3b0]) | skip)
      have H' := Aside0.mk H
      clear H
      go_wp2
      go_meet
      case rel => exact ⟨_, (decide (a0 ≤ 57)), (by first | rfl | (simp; done) | (simp [*]; done)), H', ⟨by first | omega | exact Nat.le_refl _⟩, by repeat (first | exact Drawn0.refl _ | apply Drawn0.step)⟩
    · rw [if_neg c3] at H
      have c3b0 : decide (48 ≤ a0) = false := decide_eq_false c3
      clear c3
      (first | rw [c3b0] | (simp only [i64_w, i32_w]; rw [c3b0]) | skip)
      have H' := Aside0.mk H
      clear H
      go_wp2
      go_meet
      case rel => exact ⟨_, (false), (by first | rfl | (simp; done) | (simp [*]; done)), H', ⟨by first | omega | exact Nat.le_refl _⟩, by repeat (first | exact Drawn0.refl _ | apply Drawn0.step)⟩
  case rest =>
    clear HC2
    try clear p2
    try clear c3
    try clear c3b0
    obtain ⟨kq, x3_1, rfl, HA, HJ1, ⟨mc1, rfl⟩⟩ := hcut
    cases kq with
    | zero => exact absurd HA.out (by simp [spec_kind.j0])
    | succ kj1 =>
      have H := HA.out
      clear HA
      simp only [spec_kind.j0] at H
      by_cases c4 : x3_1 = true
      · subst c4
        have H1 : (some 1) = some r := by rw [if_pos rfl] at H; exact H
        clear H
        have H := H1
        clear H1
        obtain rfl := Option.some.inj H
        go_wp2
        go_ret
        exact ⟨by first | rfl | (simp; done) | (simp [*]; done), by repeat (first | exact Drawn0.refl _ | apply Drawn0.step)⟩
      · replace c4 := Bool.eq_false_iff.mpr c4
        subst c4
        have H1 : (if a0 ≥ 97 then (if a0 ≤ 122 then (some 2) else (if a0 ≥ 65 then (if a0 ≤ 90 then (some 2) else (some 0)) else (some 0))) else (if a0 ≥ 65 then (if a0 ≤ 90 then (some 2) else (some 0)) else (some 0))) = some r := by rw [if_neg (show ¬ (false = true) by decide)] at H; exact H
        clear H
        have H := H1
        clear H1
        by_cases c5 : a0 ≥ 97
        · rw [if_pos c5] at H
          have c5b0 : decide (97 ≤ a0) = true := decide_eq_true c5
          clear c5
          by_cases c6 : a0 ≤ 122
          · rw [if_pos c6] at H
            have c6b0 : decide (a0 ≤ 122) = true := decide_eq_true c6
            clear c6
            obtain rfl := Option.some.inj H
            go_wp2
            go_ret
            exact ⟨by first | rfl | (simp; done) | (simp [*]; done), by repeat (first | exact Drawn0.refl _ | apply Drawn0.step)⟩
          · rw [if_neg c6] at H
            have c6b0 : decide (a0 ≤ 122) = false := decide_eq_false c6
            clear c6
            by_cases c7 : a0 ≥ 65
            · rw [if_pos c7] at H
              have c7b0 : decide (65 ≤ a0) = true := decide_eq_true c7
              clear c7
              by_cases c8 : a0 ≤ 90
              · rw [if_pos c8] at H
                have c8b0 : decide (a0 ≤ 90) = true := decide_eq_true c8
                clear c8
                obtain rfl := Option.some.inj H
                go_wp2
                go_ret
                exact ⟨by first | rfl | (simp; done) | (simp [*]; done), by repeat (first | exact Drawn0.refl _ | apply Drawn0.step)⟩
              · rw [if_neg c8] at H
                have c8b0 : decide (a0 ≤ 90) = false := decide_eq_false c8
                clear c8
                obtain rfl := Option.some.inj H
                go_wp2
                go_ret
                exact ⟨by first | rfl | (simp; done) | (simp [*]; done), by repeat (first | exact Drawn0.refl _ | apply Drawn0.step)⟩
            · rw [if_neg c7] at H
              have c7b0 : decide (65 ≤ a0) = false := decide_eq_false c7
              clear c7
              obtain rfl := Option.some.inj H
              go_wp2
              go_ret
              exact ⟨by first | rfl | (simp; done) | (simp [*]; done), by repeat (first | exact Drawn0.refl _ | apply Drawn0.step)⟩
        · rw [if_neg c5] at H
          have c5b0 : decide (97 ≤ a0) = false := decide_eq_false c5
          clear c5
          by_cases c9 : a0 ≥ 65
          · rw [if_pos c9] at H
            have c9b0 : decide (65 ≤ a0) = true := decide_eq_true c9
            clear c9
            by_cases c10 : a0 ≤ 90
            · rw [if_pos c10] at H
              have c10b0 : decide (a0 ≤ 90) = true := decide_eq_true c10
              clear c10
              obtain rfl := Option.some.inj H
              go_wp2
              go_ret
              exact ⟨by first | rfl | (simp; done) | (simp [*]; done), by repeat (first | exact Drawn0.refl _ | apply Drawn0.step)⟩
            · rw [if_neg c10] at H
              have c10b0 : decide (a0 ≤ 90) = false := decide_eq_false c10
              clear c10
              obtain rfl := Option.some.inj H
              go_wp2
              go_ret
              exact ⟨by first | rfl | (simp; done) | (simp [*]; done), by repeat (first | exact Drawn0.refl _ | apply Drawn0.step)⟩
          · rw [if_neg c9] at H
            have c9b0 : decide (65 ≤ a0) = false := decide_eq_false c9
            clear c9
            obtain rfl := Option.some.inj H
            go_wp2
            go_ret
            exact ⟨by first | rfl | (simp; done) | (simp [*]; done), by repeat (first | exact Drawn0.refl _ | apply Drawn0.step)⟩

/-! ### utf8_ValidRune: function 34 -/
def utf8_ValidRune.j0 : Nat → Int → Bool → Option (Bool)
  | 0, _, _ => none
  | k + 1, x0, x3 => if x3 = true then (some true) else (if 57343 < x0 then (if x0 ≤ 1114111 then (some true) else (some false)) else (some false))
def utf8_ValidRune.f (k : Nat) (a0 : Int) : Option (Bool) := if 0 ≤ a0 then (utf8_ValidRune.j0 k a0 (decide (a0 < 55296))) else (utf8_ValidRune.j0 k a0 false)
theorem utf8_ValidRune.mono_l : ∀ k, (∀ y0 y1, LeO (utf8_ValidRune.j0 k y0 y1) (utf8_ValidRune.j0 (k + 1) y0 y1))
  | 0 => fun _ _ r h => by simp [utf8_ValidRune.j0] at h
  | k + 1 => by
    have ih0 := utf8_ValidRune.mono_l k
    · intro y0 y1
      unfold utf8_ValidRune.j0
      repeat' first
      | (with_reducible exact ih0 _ _)
      | (with_reducible exact LeO.refl _)
      | (with_reducible exact LeO.none _)
      | (with_reducible refine LeO.ite ?_ ?_)
      | (with_reducible refine LeO.bind ?_ (fun _ => ?_))
      | exact ih0 _ _
      | exact LeO.none _
      | refine LeO.ite ?_ ?_
      | refine LeO.bind ?_ (fun _ => ?_)
theorem utf8_ValidRune.mono : ∀ a0 k, LeO (utf8_ValidRune.f k a0) (utf8_ValidRune.f (k + 1) a0) := by
  intro a0 k
  have ih0 := utf8_ValidRune.mono_l k
  unfold utf8_ValidRune.f
  repeat' first
      | (with_reducible exact ih0 _ _)
      | (with_reducible exact LeO.refl _)
      | (with_reducible exact LeO.none _)
      | (with_reducible refine LeO.ite ?_ ?_)
      | (with_reducible refine LeO.bind ?_ (fun _ => ?_))
      | exact ih0 _ _
      | exact LeO.none _
      | refine LeO.ite ?_ ?_
      | refine LeO.bind ?_ (fun _ => ?_)
set_option maxHeartbeats 8000000 in
set_option maxRecDepth 100000 in
theorem utf8_ValidRune.calls (k : Nat) (a0 : Int) (r : Bool) (w : World) (h : utf8_ValidRune.f k a0 = some r) :
    Calls Tryd.prog 34 #[.int .i32 a0] w fun e w' => e = .returned (.bool r) ∧ Drawn0 w w' := by
  have H : (if 0 ≤ a0 then (utf8_ValidRune.j0 k a0 (decide (a0 < 55296))) else (utf8_ValidRune.j0 k a0 false)) = some r := h
  clear h
  have HC2 := Aside0.mk H
  clear H
  go_enter Tryd.func34, Tryd.ntmps34
  go_upto_region 1 with (fail)
  go_cut [3] (fun v3 wc => ∃ (kq : Nat) (x3_1 : Bool), v3 = .bool x3_1 ∧ Aside0 (utf8_ValidRune.j0 kq a0 x3_1 = some r) ∧ Aside0 (kq ≤ k) ∧ Drawn0 w wc)
  case first =>
    have H := HC2.out
    clear HC2
    by_cases c3 : 0 ≤ a0
    · rw [if_pos c3] at H
      have c3b0 : decide (0 ≤ a0) = true := decide_eq_true c3
      clear c3
      (first | rw [c3b0] | (simp only [i64_w, i32_w]; rw [c3b0]) | skip)
      have H' := Aside0.mk H
      clear H
      go_wp2
      go_meet
      case rel => exact ⟨_, (decide (a0 < 55296)), (by first | rfl | (simp; done) | (simp [*]; done)), H', ⟨by first | omega | exact Nat.le_refl _⟩, by repeat (first | exact Drawn0.refl _ | apply Drawn0.step)⟩
    · rw [if_neg c3] at H
      have c3b0 : decide (0 ≤ a0) = false := decide_eq_false c3
      clear c3
      (first | rw [c3b0] | (simp only [i64_w, i32_w]; rw [c3b0]) | skip)
      have H' := Aside0.mk H
      clear H
      go_wp2
      go_meet
      case rel => exact ⟨_, (false), (by first | rfl | (simp; done) | (simp [*]; done)), H', ⟨by first | omega | exact Nat.le_refl _⟩, by repeat (first | exact Drawn0.refl _ | apply Drawn0.step)⟩
  case rest =>
    clear HC2
    try clear p2
    try clear c3
    try clear c3b0
    obtain ⟨kq, x3_1, rfl, HA, HJ1, ⟨mc1, rfl⟩⟩ := hcut
    cases kq with
    | zero => exact absurd HA.out (by simp [utf8_ValidRune.j0])
    | succ kj1 =>
      have H := HA.out
      clear HA
      simp only [utf8_ValidRune.j0] at H
      by_cases c4 : x3_1 = true
      · subst c4
        have H1 : (some true) = some r := by rw [if_pos rfl] at H; exact H
        clear H
        have H := H1
        clear H1
        obtain rfl := Option.some.inj H
        go_wp2
        go_ret
        exact ⟨by first | rfl | (simp; done) | (simp [*]; done), by repeat (first | exact Drawn0.refl _ | apply Drawn0.step)⟩
      · replace c4 := Bool.eq_false_iff.mpr c4
        subst c4
        have H1 : (if 57343 < a0 then (if a0 ≤ 1114111 then (some true) else (some false)) else (some false)) = some r := by rw [if_neg (show ¬ (false = true) by decide)] at H; exact H
        clear H
        have H := H1
        clear H1
        by_cases c5 : 57343 < a0
        · rw [if_pos c5] at H
          have c5b0 : decide (57343 < a0) = true := decide_eq_true c5
          clear c5
          by_cases c6 : a0 ≤ 1114111
          · rw [if_pos c6] at H
            have c6b0 : decide (a0 ≤ 1114111) = true := decide_eq_true c6
            clear c6
            obtain rfl := Option.some.inj H
            go_wp2
            go_ret
            exact ⟨by first | rfl | (simp; done) | (simp [*]; done), by repeat (first | exact Drawn0.refl _ | apply Drawn0.step)⟩
          · rw [if_neg c6] at H
            have c6b0 : decide (a0 ≤ 1114111) = false := decide_eq_false c6
            clear c6
            obtain rfl := Option.some.inj H
            go_wp2
            go_ret
            exact ⟨by first | rfl | (simp; done) | (simp [*]; done), by repeat (first | exact Drawn0.refl _ | apply Drawn0.step)⟩
        · rw [if_neg c5] at H
          have c5b0 : decide (57343 < a0) = false := decide_eq_false c5
          clear c5
          obtain rfl := Option.some.inj H
          go_wp2
          go_ret
          exact ⟨by first | rfl | (simp; done) | (simp [*]; done), by repeat (first | exact Drawn0.refl _ | apply Drawn0.step)⟩

/-! ### spec_bumped: function 35 -/
def spec_bumped.f (a0 : Int) : Option (Int × Int) := if a0 = 57 then (some (48, 49)) else (if a0 = 122 then (some (97, 97)) else (if a0 = 90 then (some (65, 65)) else (some (wrap32 (a0 + 1), 0))))
set_option maxHeartbeats 8000000 in
set_option maxRecDepth 100000 in
theorem spec_bumped.calls (a0 : Int) (r1 : Int) (r2 : Int) (w : World) (h : spec_bumped.f a0 = some (r1, r2)) :
    Calls Tryd.prog 35 #[.int .i32 a0] w fun e w' => e = .returned (.tuple #[.int .i32 r1, .int .i32 r2]) ∧ Drawn0 w w' := by
  have H : (if a0 = 57 then (some (48, 49)) else (if a0 = 122 then (some (97, 97)) else (if a0 = 90 then (some (65, 65)) else (some (wrap32 (a0 + 1), 0))))) = some (r1, r2) := h
  clear h
  by_cases c2 : a0 = 57
  · rw [if_pos c2] at H
    have c2b0 : (a0 == 57) = true := beq_iff_eq.mpr c2
    have c2b1 : (a0 != 57) = false := bne_eq_false_iff_eq.mpr c2
    clear c2
    simp only [Option.some.injEq, Prod.mk.injEq] at H
    obtain ⟨rfl, rfl⟩ := H
    go_enter Tryd.func35, Tryd.ntmps35
    go_wp2
    go_ret2
    exact ⟨by first | rfl | (simp; done) | (simp [*]; done), by repeat (first | exact Drawn0.refl _ | apply Drawn0.step)⟩
  · rw [if_neg c2] at H
    have c2b0 : (a0 == 57) = false := beq_eq_false_iff_ne.mpr c2
    have c2b1 : (a0 != 57) = true := bne_iff_ne.mpr c2
    by_cases c3 : a0 = 122
    · rw [if_pos c3] at H
      have c3b0 : (a0 == 122) = true := beq_iff_eq.mpr c3
      have c3b1 : (a0 != 122) = false := bne_eq_false_iff_eq.mpr c3
      clear c3
      simp only [Option.some.injEq, Prod.mk.injEq] at H
      obtain ⟨rfl, rfl⟩ := H
      go_enter Tryd.func35, Tryd.ntmps35
      go_wp2
      go_ret2
      exact ⟨by first | rfl | (simp; done) | (simp [*]; done), by repeat (first | exact Drawn0.refl _ | apply Drawn0.step)⟩
    · rw [if_neg c3] at H
      have c3b0 : (a0 == 122) = false := beq_eq_false_iff_ne.mpr c3
      have c3b1 : (a0 != 122) = true := bne_iff_ne.mpr c3
      by_cases c4 : a0 = 90
      · rw [if_pos c4] at H
        have c4b0 : (a0 == 90) = true := beq_iff_eq.mpr c4
        have c4b1 : (a0 != 90) = false := bne_eq_false_iff_eq.mpr c4
        clear c4
        simp only [Option.some.injEq, Prod.mk.injEq] at H
        obtain ⟨rfl, rfl⟩ := H
        go_enter Tryd.func35, Tryd.ntmps35
        go_wp2
        go_ret2
        exact ⟨by first | rfl | (simp; done) | (simp [*]; done), by repeat (first | exact Drawn0.refl _ | apply Drawn0.step)⟩
      · rw [if_neg c4] at H
        have c4b0 : (a0 == 90) = false := beq_eq_false_iff_ne.mpr c4
        have c4b1 : (a0 != 90) = true := bne_iff_ne.mpr c4
        simp only [Option.some.injEq, Prod.mk.injEq] at H
        obtain ⟨rfl, rfl⟩ := H
        go_enter Tryd.func35, Tryd.ntmps35
        go_wp2
        go_ret2
        exact ⟨by first | rfl | (simp; done) | (simp [*]; done), by repeat (first | exact Drawn0.refl _ | apply Drawn0.step)⟩

-- NOT PRINTED: function 12 (spec_Successor)

/-! ### laws_told: function 13 -/
def laws_told.f (a0 : ByteArray) (a1 : ByteArray) (a2 : Int) : Option (Bool) := if a2 = 1 then (some (a0.toList == a1.toList)) else (some true)
set_option maxHeartbeats 8000000 in
set_option maxRecDepth 100000 in
theorem laws_told.calls (a0 : ByteArray) (a1 : ByteArray) (a2 : Int) (r : Bool) (w : World) (h : laws_told.f a0 a1 a2 = some r) :
    Calls Tryd.prog 13 #[.string a0, .string a1, .int .i64 a2] w fun e w' => e = .returned (.bool r) ∧ Drawn0 w w' := by
  have H : (if a2 = 1 then (some (a0.toList == a1.toList)) else (some true)) = some r := h
  clear h
  by_cases c4 : a2 = 1
  · rw [if_pos c4] at H
    have c4b0 : (a2 == 1) = true := beq_iff_eq.mpr c4
    have c4b1 : (a2 != 1) = false := bne_eq_false_iff_eq.mpr c4
    clear c4
    obtain rfl := Option.some.inj H
    go_enter Tryd.func13, Tryd.ntmps13
    go_wp2
    go_ret
    exact ⟨by first | rfl | (simp; done) | (simp [*]; done), by repeat (first | exact Drawn0.refl _ | apply Drawn0.step)⟩
  · rw [if_neg c4] at H
    have c4b0 : (a2 == 1) = false := beq_eq_false_iff_ne.mpr c4
    have c4b1 : (a2 != 1) = true := bne_iff_ne.mpr c4
    obtain rfl := Option.some.inj H
    go_enter Tryd.func13, Tryd.ntmps13
    go_wp2
    go_ret
    exact ⟨by first | rfl | (simp; done) | (simp [*]; done), by repeat (first | exact Drawn0.refl _ | apply Drawn0.step)⟩

-- NOT PRINTED: function 3 (laws_FnSuccessor)

end Go.Proofs.YtdomnccokhhieaaDoor.PFnSuccessor
