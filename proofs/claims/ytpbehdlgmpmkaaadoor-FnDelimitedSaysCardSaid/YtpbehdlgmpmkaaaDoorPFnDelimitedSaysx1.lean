-- PRINTED BY print.sh 35421559b90ae4d0a3588c463048766b98c2df88dd9212a6774a882060cdf62d: not written by this session
import Derived.Test.YtpbehdlgmpmkaaaDoorPFnDelimitedSaysx0
namespace Go.Proofs.YtpbehdlgmpmkaaaDoor.PFnDelimitedSays
open Go.RowKit Go.Proofs.YtpbehdlgmpmkaaaDoorW.PrintWords Go.Proofs.YtpbehdlgmpmkaaaDoorW.PrintLast Go.Proofs.YtpbehdlgmpmkaaaDoorW.PrintMore
attribute [local go_sem] max2_int min2_int max_two min_two max_three min_three max_four min_four   -- for this text's walks alone
set_option linter.unusedVariables false
set_option linter.unusedSimpArgs false

-- NOT PRINTED: function 58 (utf8_decodeRuneInStringSlow)

-- NOT PRINTED: function 51 (utf8_DecodeRuneInString)

/-! ### utf8_RuneStart: function 59 -/
def utf8_RuneStart.f (a0 : Int) : Option (Bool) := some ((Go.bits .and .u8 a0 192) != 128)
set_option maxHeartbeats 8000000 in
set_option maxRecDepth 100000 in
theorem utf8_RuneStart.calls (a0 : Int) (r : Bool) (w : World) (h : utf8_RuneStart.f a0 = some r) :
    Calls Tryd.prog 59 #[.int .u8 a0] w fun e w' => e = .returned (.bool r) ∧ Drawn0 w w' := by
  have H : (some ((Go.bits .and .u8 a0 192) != 128)) = some r := h
  clear h
  obtain rfl := Option.some.inj H
  go_enter Tryd.func59, Tryd.ntmps59
  go_wp2
  go_ret
  exact ⟨by first | rfl | (simp; done) | (simp [*]; done), by repeat (first | exact Drawn0.refl _ | apply Drawn0.step)⟩

-- NOT PRINTED: function 57 (utf8_DecodeLastRuneInString)

-- NOT PRINTED: function 50 (strings_lastIndexFunc)

-- NOT PRINTED: function 44 (strings_TrimRightFunc)

-- NOT PRINTED: function 54 (strings_indexFunc)

-- NOT PRINTED: function 48 (strings_TrimLeftFunc)

-- NOT PRINTED: function 42 (strings_TrimFunc)

-- NOT PRINTED: function 55 (unicode_is16)

-- NOT PRINTED: function 56 (unicode_is32)

-- NOT PRINTED: function 49 (unicode_isExcludingLatin)

-- NOT PRINTED: function 43 (unicode_IsSpace)

-- NOT PRINTED: function 36 (strings_TrimSpace)

-- NOT PRINTED: function 52 (abi_NoEscape)

-- NOT PRINTED: function 45 (strings_Builder_copyCheck)

-- NOT PRINTED: function 53 (bytealg_MakeNoZero)

-- NOT PRINTED: function 46 (strings_Builder_grow)

-- NOT PRINTED: function 37 (strings_Builder_Grow)

-- NOT PRINTED: function 47 (strcase_zzIndexAny)

-- NOT PRINTED: function 38 (strcase_zzContainsAny)

-- NOT PRINTED: function 39 (strings_Builder_WriteByte)

-- NOT PRINTED: function 40 (strings_Builder_String)

-- NOT PRINTED: function 20 (strcase_ToScreamingDelimited)

-- NOT PRINTED: function 7 (impl_ToScreamingDelimited)

/-! ### laws_size: function 21 -/
def laws_size.l0 : Nat → Int → List ByteArray → Int → Int → Option (Int)
  | 0, _, _, _, _ => none
  | k + 1, x3, x8, x9, x10 => if x10 < x9 then (if 0 ≤ x10 then (if x10 < (x8.length : Int) then (laws_size.l0 k (wrap64 (x3 + ((rdOf ByteArray.empty x8 x10).size : Int))) x8 x9 (wrap64 (x10 + 1))) else (none)) else (none)) else (some x3)
def laws_size.f (k : Nat) (l0 : List ByteArray) : Option (Int) := laws_size.l0 k (l0.length : Int) l0 (l0.length : Int) 0
theorem laws_size.mono_l : ∀ k, (∀ y0 y1 y2 y3, LeO (laws_size.l0 k y0 y1 y2 y3) (laws_size.l0 (k + 1) y0 y1 y2 y3))
  | 0 => fun _ _ _ _ r h => by simp [laws_size.l0] at h
  | k + 1 => by
    have ih0 := laws_size.mono_l k
    · intro y0 y1 y2 y3
      unfold laws_size.l0
      repeat' first
      | (with_reducible exact ih0 _ _ _ _)
      | (with_reducible exact LeO.refl _)
      | (with_reducible exact LeO.none _)
      | (with_reducible refine LeO.ite ?_ ?_)
      | (with_reducible refine LeO.bind ?_ (fun _ => ?_))
      | exact ih0 _ _ _ _
      | exact LeO.none _
      | refine LeO.ite ?_ ?_
      | refine LeO.bind ?_ (fun _ => ?_)
theorem laws_size.mono : ∀ a0 k, LeO (laws_size.f k a0) (laws_size.f (k + 1) a0) := by
  intro a0 k
  have ih0 := laws_size.mono_l k
  unfold laws_size.f
  repeat' first
      | (with_reducible exact ih0 _ _ _ _)
      | (with_reducible exact LeO.refl _)
      | (with_reducible exact LeO.none _)
      | (with_reducible refine LeO.ite ?_ ?_)
      | (with_reducible refine LeO.bind ?_ (fun _ => ?_))
      | exact ih0 _ _ _ _
      | exact LeO.none _
      | refine LeO.ite ?_ ?_
      | refine LeO.bind ?_ (fun _ => ?_)
set_option maxHeartbeats 8000000 in
set_option maxRecDepth 100000 in
theorem laws_size.calls (k : Nat) (A0 : Option Addr) (c0 : Nat) (l0 : List ByteArray) (r : Int) (w : World) (hr0 : Kd.C Kd.string w A0 l0.length l0) (hc0 : l0.length ≤ c0) (h : laws_size.f k l0 = some r) :
    Calls Tryd.prog 21 #[.slice A0 l0.length c0] w fun e w' => e = .returned (.int .i64 r) ∧ Drawn0 w w' := by
  have HR0 := Aside0.mk hr0
  have HC0 := Aside0.mk hc0
  clear hr0 hc0
  have H : (laws_size.l0 k (l0.length : Int) l0 (l0.length : Int) 0) = some r := h
  clear h
  have H' := Aside0.mk H
  clear H
  go_enter Tryd.func21, Tryd.ntmps21
  go_wp2
  go_loopg [3, 10] k (fun kq v3 v10 w' => ∃ (x3_1 : Int) (x10_1 : Int), v3 = .int .i64 x3_1 ∧ v10 = .int .i64 x10_1 ∧ Aside0 (laws_size.l0 kq x3_1 l0 (l0.length : Int) x10_1 = some r) ∧ Aside0 (kq ≤ k) ∧ Drawn0 w w')
  case atStart => exact ⟨((l0.length : Int)), (0), (by first | rfl | (simp; done) | (simp [*]; done)), (by first | rfl | (simp; done) | (simp [*]; done)), H', ⟨Nat.le_refl _⟩, by repeat (first | exact Drawn0.refl _ | apply Drawn0.step)⟩
  case round =>
    clear H'
    obtain ⟨x3_1, x10_1, rfl, rfl, HA, HK1, ⟨m1, rfl⟩⟩ := hrel
    cases gk with
    | zero => exact absurd HA.out (by simp [laws_size.l0])
    | succ k1 =>
      have H := HA.out
      clear HA
      simp only [laws_size.l0] at H
      by_cases c2 : x10_1 < (l0.length : Int)
      · rw [if_pos c2] at H
        have c2b0 : decide (x10_1 < (l0.length : Int)) = true := decide_eq_true c2
        clear c2
        by_cases c3 : 0 ≤ x10_1
        · rw [if_pos c3] at H
          have c3b0 : decide (0 ≤ x10_1) = true := decide_eq_true c3
          clear c3
          by_cases c4 : x10_1 < (l0.length : Int)
          · rw [if_pos c4] at H
            have c4b0 : decide (x10_1 < (l0.length : Int)) = true := decide_eq_true c4
            clear c4
            have H' := Aside0.mk H
            clear H
            have p105 : 0 ≤ (x10_1 : Int) := of_decide_eq_true (by first | (with_reducible assumption) | assumption)
            have q105 : x10_1 < (l0.length : Int) := of_decide_eq_true (by first | (with_reducible assumption) | assumption)
            obtain ⟨ad105, e105, hx105_0⟩ := Kd.at_string HR0.out x10_1 p105 q105
            cases e105
            replace p105 := eq_true p105
            replace q105 := eq_true q105
            go_wp2
            go_roundg k1
            case measure => have := HK1.out; omega
            case rel => exact ⟨(wrap64 (x3_1 + ((rdOf ByteArray.empty l0 x10_1).size : Int))), (wrap64 (x10_1 + 1)), (by first | rfl | (simp; done) | (simp [*]; done)), (by first | rfl | (simp; done) | (simp [*]; done)), H', ⟨by have := HK1.out; omega⟩, by repeat (first | exact Drawn0.refl _ | apply Drawn0.step)⟩
          · rw [if_neg c4] at H
            exact absurd H (by simp)
        · rw [if_neg c3] at H
          exact absurd H (by simp)
      · rw [if_neg c2] at H
        have c2b0 : decide (x10_1 < (l0.length : Int)) = false := decide_eq_false c2
        clear c2
        obtain rfl := Option.some.inj H
        go_wp2
        go_ret
        exact ⟨by first | rfl | (simp; done) | (simp [*]; done), by repeat (first | exact Drawn0.refl _ | apply Drawn0.step)⟩

/-! ### laws_few: function 8 -/
def laws_few.f (k : Nat) (l0 : List ByteArray) : Option (Bool) := (laws_size.f k l0).bind fun t106 => (some (decide (t106 ≤ 400)))
theorem laws_few.mono : ∀ a0 k, LeO (laws_few.f k a0) (laws_few.f (k + 1) a0) := by
  intro a0 k
  unfold laws_few.f
  repeat' first
      | (with_reducible exact laws_size.mono _ _)
      | (with_reducible exact LeO.refl _)
      | (with_reducible exact LeO.none _)
      | (with_reducible refine LeO.ite ?_ ?_)
      | (with_reducible refine LeO.bind ?_ (fun _ => ?_))
      | exact laws_size.mono _ _
      | exact LeO.none _
      | refine LeO.ite ?_ ?_
      | refine LeO.bind ?_ (fun _ => ?_)
set_option maxHeartbeats 8000000 in
set_option maxRecDepth 100000 in
theorem laws_few.calls (k : Nat) (A0 : Option Addr) (c0 : Nat) (l0 : List ByteArray) (r : Bool) (w : World) (hr0 : Kd.C Kd.string w A0 l0.length l0) (hc0 : l0.length ≤ c0) (h : laws_few.f k l0 = some r) :
    Calls Tryd.prog 8 #[.slice A0 l0.length c0] w fun e w' => e = .returned (.bool r) ∧ Drawn0 w w' := by
  have HR0 := Aside0.mk hr0
  have HC0 := Aside0.mk hc0
  clear hr0 hc0
  have H : ((laws_size.f k l0).bind fun t106 => (some (decide (t106 ≤ 400)))) = some r := h
  clear h
  replace H := Option.bind_eq_some_iff.mp H
  obtain ⟨t106, A20, H⟩ := H
  replace H : (some (decide (t106 ≤ 400))) = some r := H
  have A2 := Aside0.mk A20
  clear A20
  obtain rfl := Option.some.inj H
  go_enter Tryd.func8, Tryd.ntmps8
  go_wp2_with (first | ((with_reducible refine gate_callee (f := 21) rfl ?_); refine goesL_ (some 4) rfl rfl Tryd.func21 (by kernel_rfl) rfl #[.slice A0 l0.length c0] rfl (by (try simp only [List.map_toArray, List.map_cons, List.map_nil]); first | done | rfl | (simp only [List.length_drop, List.length_take]; rfl)) ?_; (with_reducible refine (laws_size.calls k _ _ l0 t106 _ ?side1 ?side2 A2.out).mono ?_); (case side1 => repeat (first | exact HR0.out | (with_reducible refine Kd.C_alloc ?_ _) | (with_reducible refine Kd.C_drewN ?_ _) | (with_reducible refine Kd.C_drew ?_))); (case side2 => exact HC0.out); rintro e w' ⟨rfl, ⟨nd, rfl⟩⟩; refine ⟨_, rfl, ?_⟩))
  go_ret
  exact ⟨by first | rfl | (simp; done) | (simp [*]; done), by repeat (first | exact Drawn0.refl _ | apply Drawn0.step)⟩

/-! ### spec_stripped: function 22 -/
mutual
def spec_stripped.l0 : Nat → ByteArray → Int → Int → Option (ByteArray × Int)
  | 0, _, _, _ => none
  | k + 1, x0, x6, x7 => if x7 < x6 then (if 0 ≤ x7 then (if x7 < (x0.size : Int) then (if (bt x0 x7) ≥ 128 then (some ((⟨#[]⟩ : ByteArray), 2)) else (spec_stripped.l0 k x0 x6 (wrap64 (x7 + 1)))) else (none)) else (none)) else (spec_stripped.l1 k x0)
def spec_stripped.j2 : Nat → ByteArray → Option (ByteArray × Int)
  | 0, _ => none
  | k + 1, x0 => spec_stripped.l2 k x0
def spec_stripped.l2 : Nat → ByteArray → Option (ByteArray × Int)
  | 0, _ => none
  | k + 1, x0 => if (x0.size : Int) > 0 then (if 0 ≤ (wrap64 ((x0.size : Int) - 1)) then (if (wrap64 ((x0.size : Int) - 1)) < (x0.size : Int) then (if (bt x0 (wrap64 ((x0.size : Int) - 1))) = 32 then (if (wrap64 ((x0.size : Int) - 1)) ≤ (x0.size : Int) then (spec_stripped.l2 k (x0.extract 0 ((wrap64 ((x0.size : Int) - 1)) : Int).toNat)) else (none)) else (if (bt x0 (wrap64 ((x0.size : Int) - 1))) ≥ 9 then (if (bt x0 (wrap64 ((x0.size : Int) - 1))) ≤ 13 then (if (wrap64 ((x0.size : Int) - 1)) ≤ (x0.size : Int) then (spec_stripped.l2 k (x0.extract 0 ((wrap64 ((x0.size : Int) - 1)) : Int).toNat)) else (none)) else (some (x0, 1))) else (some (x0, 1)))) else (none)) else (none)) else (some (x0, 1))
def spec_stripped.l1 : Nat → ByteArray → Option (ByteArray × Int)
  | 0, _ => none
  | k + 1, x0 => if (x0.size : Int) > 0 then (if 0 < (x0.size : Int) then (if (bt x0 0) = 32 then (if 1 ≤ (x0.size : Int) then (spec_stripped.l1 k (x0.extract 1 x0.size)) else (none)) else (if (bt x0 0) ≥ 9 then (if (bt x0 0) ≤ 13 then (if 1 ≤ (x0.size : Int) then (spec_stripped.l1 k (x0.extract 1 x0.size)) else (none)) else (spec_stripped.j2 k x0)) else (spec_stripped.j2 k x0))) else (none)) else (spec_stripped.j2 k x0)
end
def spec_stripped.f (k : Nat) (a0 : ByteArray) : Option (ByteArray × Int) := spec_stripped.l0 k a0 (a0.size : Int) 0
theorem spec_stripped.mono_l : ∀ k, (∀ y0 y1 y2, LeO (spec_stripped.l0 k y0 y1 y2) (spec_stripped.l0 (k + 1) y0 y1 y2)) ∧ (∀ y0, LeO (spec_stripped.j2 k y0) (spec_stripped.j2 (k + 1) y0)) ∧ (∀ y0, LeO (spec_stripped.l2 k y0) (spec_stripped.l2 (k + 1) y0)) ∧ (∀ y0, LeO (spec_stripped.l1 k y0) (spec_stripped.l1 (k + 1) y0))
  | 0 => ⟨fun _ _ _ r h => by simp [spec_stripped.l0] at h, fun _ r h => by simp [spec_stripped.j2] at h, fun _ r h => by simp [spec_stripped.l2] at h, fun _ r h => by simp [spec_stripped.l1] at h⟩
  | k + 1 => by
    obtain ⟨ih0, ih1, ih2, ih3⟩ := spec_stripped.mono_l k
    refine ⟨?_, ?_, ?_, ?_⟩
    · intro y0 y1 y2
      unfold spec_stripped.l0
      repeat' first
      | (with_reducible exact ih0 _ _ _)
      | (with_reducible exact ih1 _)
      | (with_reducible exact ih2 _)
      | (with_reducible exact ih3 _)
      | (with_reducible exact LeO.refl _)
      | (with_reducible exact LeO.none _)
      | (with_reducible refine LeO.ite ?_ ?_)
      | (with_reducible refine LeO.bind ?_ (fun _ => ?_))
      | exact ih0 _ _ _
      | exact ih1 _
      | exact ih2 _
      | exact ih3 _
      | exact LeO.none _
      | refine LeO.ite ?_ ?_
      | refine LeO.bind ?_ (fun _ => ?_)
    · intro y0
      unfold spec_stripped.j2
      repeat' first
      | (with_reducible exact ih0 _ _ _)
      | (with_reducible exact ih1 _)
      | (with_reducible exact ih2 _)
      | (with_reducible exact ih3 _)
      | (with_reducible exact LeO.refl _)
      | (with_reducible exact LeO.none _)
      | (with_reducible refine LeO.ite ?_ ?_)
      | (with_reducible refine LeO.bind ?_ (fun _ => ?_))
      | exact ih0 _ _ _
      | exact ih1 _
      | exact ih2 _
      | exact ih3 _
      | exact LeO.none _
      | refine LeO.ite ?_ ?_
      | refine LeO.bind ?_ (fun _ => ?_)
    · intro y0
      unfold spec_stripped.l2
      repeat' first
      | (with_reducible exact ih0 _ _ _)
      | (with_reducible exact ih1 _)
      | (with_reducible exact ih2 _)
      | (with_reducible exact ih3 _)
      | (with_reducible exact LeO.refl _)
      | (with_reducible exact LeO.none _)
      | (with_reducible refine LeO.ite ?_ ?_)
      | (with_reducible refine LeO.bind ?_ (fun _ => ?_))
      | exact ih0 _ _ _
      | exact ih1 _
      | exact ih2 _
      | exact ih3 _
      | exact LeO.none _
      | refine LeO.ite ?_ ?_
      | refine LeO.bind ?_ (fun _ => ?_)
    · intro y0
      unfold spec_stripped.l1
      repeat' first
      | (with_reducible exact ih0 _ _ _)
      | (with_reducible exact ih1 _)
      | (with_reducible exact ih2 _)
      | (with_reducible exact ih3 _)
      | (with_reducible exact LeO.refl _)
      | (with_reducible exact LeO.none _)
      | (with_reducible refine LeO.ite ?_ ?_)
      | (with_reducible refine LeO.bind ?_ (fun _ => ?_))
      | exact ih0 _ _ _
      | exact ih1 _
      | exact ih2 _
      | exact ih3 _
      | exact LeO.none _
      | refine LeO.ite ?_ ?_
      | refine LeO.bind ?_ (fun _ => ?_)
theorem spec_stripped.mono : ∀ a0 k, LeO (spec_stripped.f k a0) (spec_stripped.f (k + 1) a0) := by
  intro a0 k
  obtain ⟨ih0, ih1, ih2, ih3⟩ := spec_stripped.mono_l k
  unfold spec_stripped.f
  repeat' first
      | (with_reducible exact ih0 _ _ _)
      | (with_reducible exact ih1 _)
      | (with_reducible exact ih2 _)
      | (with_reducible exact ih3 _)
      | (with_reducible exact LeO.refl _)
      | (with_reducible exact LeO.none _)
      | (with_reducible refine LeO.ite ?_ ?_)
      | (with_reducible refine LeO.bind ?_ (fun _ => ?_))
      | exact ih0 _ _ _
      | exact ih1 _
      | exact ih2 _
      | exact ih3 _
      | exact LeO.none _
      | refine LeO.ite ?_ ?_
      | refine LeO.bind ?_ (fun _ => ?_)
set_option maxHeartbeats 8000000 in
set_option maxRecDepth 100000 in
theorem spec_stripped.calls (k : Nat) (a0 : ByteArray) (r1 : ByteArray) (r2 : Int) (w : World) (h : spec_stripped.f k a0 = some (r1, r2)) :
    Calls Tryd.prog 22 #[.string a0] w fun e w' => e = .returned (.tuple #[.string r1, .int .i64 r2]) ∧ Drawn0 w w' := by
  have H : (spec_stripped.l0 k a0 (a0.size : Int) 0) = some (r1, r2) := h
  clear h
  have H' := Aside0.mk H
  clear H
  go_enter Tryd.func22, Tryd.ntmps22
  go_wp2
  go_loopg [7] k (fun kq v7 w' => ∃ (x7_1 : Int), v7 = .int .i64 x7_1 ∧ Aside0 (spec_stripped.l0 kq a0 (a0.size : Int) x7_1 = some (r1, r2)) ∧ Aside0 (kq ≤ k) ∧ Drawn0 w w')
  case atStart => exact ⟨(0), (by first | rfl | (simp; done) | (simp [*]; done)), H', ⟨Nat.le_refl _⟩, by repeat (first | exact Drawn0.refl _ | apply Drawn0.step)⟩
  case round =>
    clear H'
    obtain ⟨x7_1, rfl, HA, HK1, ⟨m1, rfl⟩⟩ := hrel
    cases gk with
    | zero => exact absurd HA.out (by simp [spec_stripped.l0])
    | succ k1 =>
      have H := HA.out
      clear HA
      simp only [spec_stripped.l0] at H
      by_cases c2 : x7_1 < (a0.size : Int)
      · rw [if_pos c2] at H
        have c2b0 : decide (x7_1 < (a0.size : Int)) = true := decide_eq_true c2
        clear c2
        by_cases c3 : 0 ≤ x7_1
        · rw [if_pos c3] at H
          have c3b0 : decide (0 ≤ x7_1) = true := decide_eq_true c3
          clear c3
          by_cases c4 : x7_1 < (a0.size : Int)
          · rw [if_pos c4] at H
            have c4b0 : decide (x7_1 < (a0.size : Int)) = true := decide_eq_true c4
            clear c4
            by_cases c6 : (bt a0 x7_1) ≥ 128
            · rw [if_pos c6] at H
              have c6b0 : decide (128 ≤ (bt a0 x7_1)) = true := decide_eq_true c6
              clear c6
              simp only [Option.some.injEq, Prod.mk.injEq] at H
              obtain ⟨rfl, rfl⟩ := H
              have p5 : 0 ≤ (x7_1 : Int) := of_decide_eq_true (by first | (with_reducible assumption) | assumption)
              have q5 : x7_1 < (a0.size : Int) := of_decide_eq_true (by first | (with_reducible assumption) | assumption)
              have hx5 := bt_at a0 x7_1
              replace p5 := eq_true p5
              replace q5 := eq_true q5
              go_wp2
              go_ret2
              exact ⟨by first | rfl | (simp; done) | (simp [*]; done), by repeat (first | exact Drawn0.refl _ | apply Drawn0.step)⟩
            · rw [if_neg c6] at H
              have c6b0 : decide (128 ≤ (bt a0 x7_1)) = false := decide_eq_false c6
              clear c6
              have H' := Aside0.mk H
              clear H
              have p5 : 0 ≤ (x7_1 : Int) := of_decide_eq_true (by first | (with_reducible assumption) | assumption)
              have q5 : x7_1 < (a0.size : Int) := of_decide_eq_true (by first | (with_reducible assumption) | assumption)
              have hx5 := bt_at a0 x7_1
              replace p5 := eq_true p5
              replace q5 := eq_true q5
              go_wp2
              go_roundg k1
              case measure => have := HK1.out; omega
              case rel => exact ⟨(wrap64 (x7_1 + 1)), (by first | rfl | (simp; done) | (simp [*]; done)), H', ⟨by have := HK1.out; omega⟩, by repeat (first | exact Drawn0.refl _ | apply Drawn0.step)⟩
          · rw [if_neg c4] at H
            exact absurd H (by simp)
        · rw [if_neg c3] at H
          exact absurd H (by simp)
      · rw [if_neg c2] at H
        have c2b0 : decide (x7_1 < (a0.size : Int)) = false := decide_eq_false c2
        clear c2
        have HC7 := Aside0.mk H
        clear H
        go_upto_block 2 with (fail)
        go_cut [0] (fun v0 wc => ∃ (kq : Nat) (x0_6 : ByteArray), v0 = .string x0_6 ∧ Aside0 (spec_stripped.j2 kq x0_6 = some (r1, r2)) ∧ Aside0 (kq ≤ k1) ∧ Drawn0 w wc)
        case first =>
          have H := HC7.out
          clear HC7
          have H' := Aside0.mk H
          clear H
          go_wp2
          go_loopg [0] k1 (fun kq v0 w' => ∃ (x0_2 : ByteArray), v0 = .string x0_2 ∧ Aside0 (spec_stripped.l1 kq x0_2 = some (r1, r2)) ∧ Aside0 (kq ≤ k1) ∧ Drawn0 w w')
          case atStart => exact ⟨(a0), (by first | rfl | (simp; done) | (simp [*]; done)), H', ⟨Nat.le_refl _⟩, by repeat (first | exact Drawn0.refl _ | apply Drawn0.step)⟩
          case round =>
            clear H'
            try clear c2
            try clear c2b0
            try clear p2
            try clear c3
            try clear c3b0
            try clear c4
            try clear c4b0
            try clear p5
            try clear q5
            try clear hx5
            try clear c6
            try clear c6b0
            try clear p6
            try clear p5
            try clear q5
            obtain ⟨x0_2, rfl, HA, HK2, ⟨m2, rfl⟩⟩ := hrel
            cases gk with
            | zero => exact absurd HA.out (by simp [spec_stripped.l1])
            | succ k2 =>
              have H := HA.out
              clear HA
              simp only [spec_stripped.l1] at H
              by_cases c8 : (x0_2.size : Int) > 0
              · rw [if_pos c8] at H
                have c8b0 : decide (0 < (x0_2.size : Int)) = true := decide_eq_true c8
                have c8b1 : decide (0 < x0_2.size) = true := decide_eq_true (by omega)
                clear c8
                (first | rw [c8b0] | (simp only [i64_w, i32_w]; rw [c8b0]) | skip)
                by_cases c9 : 0 < (x0_2.size : Int)
                · rw [if_pos c9] at H
                  have c9b0 : decide (0 < (x0_2.size : Int)) = true := decide_eq_true c9
                  have c9b1 : decide (0 < x0_2.size) = true := decide_eq_true (by omega)
                  clear c9
                  by_cases c11 : (bt x0_2 0) = 32
                  · rw [if_pos c11] at H
                    have c11b0 : ((bt x0_2 0) == 32) = true := beq_iff_eq.mpr c11
                    have c11b1 : ((bt x0_2 0) != 32) = false := bne_eq_false_iff_eq.mpr c11
                    clear c11
                    by_cases c12 : 1 ≤ (x0_2.size : Int)
                    · rw [if_pos c12] at H
                      have c12b0 := eq_true c12
                      have c12b1 : decide (1 ≤ (x0_2.size : Int)) = true := decide_eq_true c12
                      clear c12
                      have H' := Aside0.mk H
                      clear H
                      have p10 : 0 ≤ (0 : Int) := (by omega)
                      have q10 : 0 < x0_2.size := (by have : (0 : Int) < (x0_2.size : Int) := of_decide_eq_true (by first | (with_reducible assumption) | assumption); omega)
                      have hx10 : ∀ h : 0 < x0_2.size, ((x0_2[0]'h).toNat : Int) = bt x0_2 0 := bt_at x0_2 0
                      clear p10
                      have qi10 : (0 < (x0_2.size : Int)) = True := eq_true (of_decide_eq_true (by first | (with_reducible assumption) | assumption))
                      replace q10 := eq_true q10
                      go_wp2
                      go_roundg k2
                      case measure => have := HK1.out; have := HK2.out; omega
                      case rel => exact ⟨(x0_2.extract 1 x0_2.size), (by first | rfl | (simp; done) | (simp [*]; done)), H', ⟨by have := HK1.out; have := HK2.out; omega⟩, by repeat (first | exact Drawn0.refl _ | apply Drawn0.step)⟩
                    · rw [if_neg c12] at H
                      exact absurd H (by simp)
                  · rw [if_neg c11] at H
                    have c11b0 : ((bt x0_2 0) == 32) = false := beq_eq_false_iff_ne.mpr c11
                    have c11b1 : ((bt x0_2 0) != 32) = true := bne_iff_ne.mpr c11
                    by_cases c14 : (bt x0_2 0) ≥ 9
                    · rw [if_pos c14] at H
                      have c14b0 : decide (9 ≤ (bt x0_2 0)) = true := decide_eq_true c14
                      clear c14
                      by_cases c16 : (bt x0_2 0) ≤ 13
                      · rw [if_pos c16] at H
                        have c16b0 : decide ((bt x0_2 0) ≤ 13) = true := decide_eq_true c16
                        clear c16
                        by_cases c17 : 1 ≤ (x0_2.size : Int)
                        · rw [if_pos c17] at H
                          have c17b0 := eq_true c17
                          have c17b1 : decide (1 ≤ (x0_2.size : Int)) = true := decide_eq_true c17
                          clear c17
                          have H' := Aside0.mk H
                          clear H
                          have p10 : 0 ≤ (0 : Int) := (by omega)
                          have q10 : 0 < x0_2.size := (by have : (0 : Int) < (x0_2.size : Int) := of_decide_eq_true (by first | (with_reducible assumption) | assumption); omega)
                          have hx10 : ∀ h : 0 < x0_2.size, ((x0_2[0]'h).toNat : Int) = bt x0_2 0 := bt_at x0_2 0
                          clear p10
                          have qi10 : (0 < (x0_2.size : Int)) = True := eq_true (of_decide_eq_true (by first | (with_reducible assumption) | assumption))
                          replace q10 := eq_true q10
                          have p13 : 0 ≤ (0 : Int) := (by omega)
                          have q13 : 0 < x0_2.size := (by have : (0 : Int) < (x0_2.size : Int) := of_decide_eq_true (by first | (with_reducible assumption) | assumption); omega)
                          have hx13 : ∀ h : 0 < x0_2.size, ((x0_2[0]'h).toNat : Int) = bt x0_2 0 := bt_at x0_2 0
                          clear p13
                          have qi13 : (0 < (x0_2.size : Int)) = True := eq_true (of_decide_eq_true (by first | (with_reducible assumption) | assumption))
                          replace q13 := eq_true q13
                          have p15 : 0 ≤ (0 : Int) := (by omega)
                          have q15 : 0 < x0_2.size := (by have : (0 : Int) < (x0_2.size : Int) := of_decide_eq_true (by first | (with_reducible assumption) | assumption); omega)
                          have hx15 : ∀ h : 0 < x0_2.size, ((x0_2[0]'h).toNat : Int) = bt x0_2 0 := bt_at x0_2 0
                          clear p15
                          have qi15 : (0 < (x0_2.size : Int)) = True := eq_true (of_decide_eq_true (by first | (with_reducible assumption) | assumption))
                          replace q15 := eq_true q15
                          go_wp2
                          go_roundg k2
                          case measure => have := HK1.out; have := HK2.out; omega
                          case rel => exact ⟨(x0_2.extract 1 x0_2.size), (by first | rfl | (simp; done) | (simp [*]; done)), H', ⟨by have := HK1.out; have := HK2.out; omega⟩, by repeat (first | exact Drawn0.refl _ | apply Drawn0.step)⟩
                        · rw [if_neg c17] at H
                          exact absurd H (by simp)
                      · rw [if_neg c16] at H
                        have c16b0 : decide ((bt x0_2 0) ≤ 13) = false := decide_eq_false c16
                        clear c16
                        have H' := Aside0.mk H
                        clear H
                        have p10 : 0 ≤ (0 : Int) := (by omega)
                        have q10 : 0 < x0_2.size := (by have : (0 : Int) < (x0_2.size : Int) := of_decide_eq_true (by first | (with_reducible assumption) | assumption); omega)
                        have hx10 : ∀ h : 0 < x0_2.size, ((x0_2[0]'h).toNat : Int) = bt x0_2 0 := bt_at x0_2 0
                        clear p10
                        have qi10 : (0 < (x0_2.size : Int)) = True := eq_true (of_decide_eq_true (by first | (with_reducible assumption) | assumption))
                        replace q10 := eq_true q10
                        have p13 : 0 ≤ (0 : Int) := (by omega)
                        have q13 : 0 < x0_2.size := (by have : (0 : Int) < (x0_2.size : Int) := of_decide_eq_true (by first | (with_reducible assumption) | assumption); omega)
                        have hx13 : ∀ h : 0 < x0_2.size, ((x0_2[0]'h).toNat : Int) = bt x0_2 0 := bt_at x0_2 0
                        clear p13
                        have qi13 : (0 < (x0_2.size : Int)) = True := eq_true (of_decide_eq_true (by first | (with_reducible assumption) | assumption))
                        replace q13 := eq_true q13
                        have p15 : 0 ≤ (0 : Int) := (by omega)
                        have q15 : 0 < x0_2.size := (by have : (0 : Int) < (x0_2.size : Int) := of_decide_eq_true (by first | (with_reducible assumption) | assumption); omega)
                        have hx15 : ∀ h : 0 < x0_2.size, ((x0_2[0]'h).toNat : Int) = bt x0_2 0 := bt_at x0_2 0
                        clear p15
                        have qi15 : (0 < (x0_2.size : Int)) = True := eq_true (of_decide_eq_true (by first | (with_reducible assumption) | assumption))
                        replace q15 := eq_true q15
                        go_wp2
                        go_meet
                        case rel => exact ⟨_, (x0_2), (by first | rfl | (simp; done) | (simp [*]; done)), H', ⟨by have := HK1.out; have := HK2.out; first | omega | exact Nat.le_refl _⟩, by repeat (first | exact Drawn0.refl _ | apply Drawn0.step)⟩
                    · rw [if_neg c14] at H
                      have c14b0 : decide (9 ≤ (bt x0_2 0)) = false := decide_eq_false c14
                      clear c14
                      have H' := Aside0.mk H
                      clear H
                      have p10 : 0 ≤ (0 : Int) := (by omega)
                      have q10 : 0 < x0_2.size := (by have : (0 : Int) < (x0_2.size : Int) := of_decide_eq_true (by first | (with_reducible assumption) | assumption); omega)
                      have hx10 : ∀ h : 0 < x0_2.size, ((x0_2[0]'h).toNat : Int) = bt x0_2 0 := bt_at x0_2 0
                      clear p10
                      have qi10 : (0 < (x0_2.size : Int)) = True := eq_true (of_decide_eq_true (by first | (with_reducible assumption) | assumption))
                      replace q10 := eq_true q10
                      have p13 : 0 ≤ (0 : Int) := (by omega)
                      have q13 : 0 < x0_2.size := (by have : (0 : Int) < (x0_2.size : Int) := of_decide_eq_true (by first | (with_reducible assumption) | assumption); omega)
                      have hx13 : ∀ h : 0 < x0_2.size, ((x0_2[0]'h).toNat : Int) = bt x0_2 0 := bt_at x0_2 0
                      clear p13
                      have qi13 : (0 < (x0_2.size : Int)) = True := eq_true (of_decide_eq_true (by first | (with_reducible assumption) | assumption))
                      replace q13 := eq_true q13
                      go_wp2
                      go_meet
                      case rel => exact ⟨_, (x0_2), (by first | rfl | (simp; done) | (simp [*]; done)), H', ⟨by have := HK1.out; have := HK2.out; first | omega | exact Nat.le_refl _⟩, by repeat (first | exact Drawn0.refl _ | apply Drawn0.step)⟩
                · rw [if_neg c9] at H
                  exact absurd H (by simp)
              · rw [if_neg c8] at H
                have c8b0 : decide (0 < (x0_2.size : Int)) = false := decide_eq_false c8
                have c8b1 : decide (0 < x0_2.size) = false := decide_eq_false (by omega)
                clear c8
                (first | rw [c8b0] | (simp only [i64_w, i32_w]; rw [c8b0]) | skip)
                have H' := Aside0.mk H
                clear H
                go_wp2
                go_meet
                case rel => exact ⟨_, (x0_2), (by first | rfl | (simp; done) | (simp [*]; done)), H', ⟨by have := HK1.out; have := HK2.out; first | omega | exact Nat.le_refl _⟩, by repeat (first | exact Drawn0.refl _ | apply Drawn0.step)⟩
        case rest =>
          clear HC7
          try clear c1
          try clear p1
          try clear q1
          try clear hx1
          try clear qi1
          try clear c2
          try clear c2b0
          try clear p2
          try clear c3
          try clear c3b0
          try clear c4
          try clear c4b0
          try clear p5
          try clear q5
          try clear hx5
          try clear c6
          try clear c6b0
          try clear p6
          try clear c8
          try clear c8b0
          try clear c8b1
          try clear c9
          try clear c9b0
          try clear c9b1
          try clear p10
          try clear q10
          try clear hx10
          try clear qi10
          try clear c11
          try clear c11b0
          try clear c11b1
          try clear c12
          try clear c12b0
          try clear c12b1
          try clear p13
          try clear q13
          try clear hx13
          try clear qi13
          try clear c14
          try clear c14b0
          try clear p15
          try clear q15
          try clear hx15
          try clear qi15
          try clear c16
          try clear c16b0
          try clear c17
          try clear c17b0
          try clear c17b1
          try clear p10
          try clear p13
          try clear p15
          try clear p2
          try clear p5
          try clear p6
          try clear q10
          try clear q13
          try clear q15
          try clear q5
          obtain ⟨kq, x0_6, rfl, HA, HJ6, ⟨mc6, rfl⟩⟩ := hcut
          cases kq with
          | zero => exact absurd HA.out (by simp [spec_stripped.j2])
          | succ kj6 =>
            have H := HA.out
            clear HA
            simp only [spec_stripped.j2] at H
            have H' := Aside0.mk H
            clear H
            go_wp2
            go_loopg [0] kj6 (fun kq v0 w' => ∃ (x0_3 : ByteArray), v0 = .string x0_3 ∧ Aside0 (spec_stripped.l2 kq x0_3 = some (r1, r2)) ∧ Aside0 (kq ≤ kj6) ∧ Drawn0 w w')
            case atStart => exact ⟨(x0_6), (by first | rfl | (simp; done) | (simp [*]; done)), H', ⟨Nat.le_refl _⟩, by repeat (first | exact Drawn0.refl _ | apply Drawn0.step)⟩
            case round =>
              clear H'
              try clear c1
              try clear p1
              try clear q1
              try clear hx1
              try clear qi1
              try clear c2
              try clear c2b0
              try clear p2
              try clear c3
              try clear c3b0
              try clear c4
              try clear c4b0
              try clear p5
              try clear q5
              try clear hx5
              try clear c6
              try clear c6b0
              try clear p6
              try clear c8
              try clear c8b0
              try clear c8b1
              try clear c9
              try clear c9b0
              try clear c9b1
              try clear p10
              try clear q10
              try clear hx10
              try clear qi10
              try clear c11
              try clear c11b0
              try clear c11b1
              try clear c12
              try clear c12b0
              try clear c12b1
              try clear p13
              try clear q13
              try clear hx13
              try clear qi13
              try clear c14
              try clear c14b0
              try clear p15
              try clear q15
              try clear hx15
              try clear qi15
              try clear c16
              try clear c16b0
              try clear c17
              try clear c17b0
              try clear c17b1
              try clear p1
              try clear p10
              try clear p13
              try clear p15
              try clear p2
              try clear p5
              try clear p6
              try clear q1
              try clear q10
              try clear q13
              try clear q15
              try clear q5
              obtain ⟨x0_3, rfl, HA, HK3, ⟨m3, rfl⟩⟩ := hrel
              cases gk with
              | zero => exact absurd HA.out (by simp [spec_stripped.l2])
              | succ k3 =>
                have H := HA.out
                clear HA
                simp only [spec_stripped.l2] at H
                by_cases c18 : (x0_3.size : Int) > 0
                · rw [if_pos c18] at H
                  have c18b0 : decide (0 < (x0_3.size : Int)) = true := decide_eq_true c18
                  have c18b1 : decide (0 < x0_3.size) = true := decide_eq_true (by omega)
                  clear c18
                  obtain ⟨ji19, hji19⟩ : ∃ j_ : Int, (wrap64 ((x0_3.size : Int) - 1)) = j_ := ⟨_, rfl⟩
                  replace H : (if 0 ≤ (ji19) then (if (ji19) < (x0_3.size : Int) then (if (bt x0_3 (ji19)) = 32 then (if (ji19) ≤ (x0_3.size : Int) then (spec_stripped.l2 k3 (x0_3.extract 0 ((ji19) : Int).toNat)) else (none)) else (if (bt x0_3 (ji19)) ≥ 9 then (if (bt x0_3 (ji19)) ≤ 13 then (if (ji19) ≤ (x0_3.size : Int) then (spec_stripped.l2 k3 (x0_3.extract 0 ((ji19) : Int).toNat)) else (none)) else (some (x0_3, 1))) else (some (x0_3, 1)))) else (none)) else (none)) = some (r1, r2) := by first | (rw [hji19] at H; exact H) | (simp only [hji19] at H ⊢; exact H)
                  have hji19w : (IntKind.i64.wrap ((x0_3.size : Int) - 1)) = ji19 := (i64_w _).trans hji19
                  by_cases c20 : 0 ≤ (ji19)
                  · rw [if_pos c20] at H
                    have c20b0 : decide (0 ≤ (ji19)) = true := decide_eq_true c20
                    clear c20
                    by_cases c21 : (ji19) < (x0_3.size : Int)
                    · rw [if_pos c21] at H
                      have c21b0 : decide ((ji19) < (x0_3.size : Int)) = true := decide_eq_true c21
                      clear c21
                      by_cases c23 : (bt x0_3 (ji19)) = 32
                      · rw [if_pos c23] at H
                        have c23b0 : ((bt x0_3 (ji19)) == 32) = true := beq_iff_eq.mpr c23
                        have c23b1 : ((bt x0_3 (ji19)) != 32) = false := bne_eq_false_iff_eq.mpr c23
                        clear c23
                        have c24b0 := eq_true (of_decide_eq_true (by first | (with_reducible assumption) | assumption) : 0 ≤ (ji19))
                        by_cases c25 : (ji19) ≤ (x0_3.size : Int)
                        · rw [if_pos c25] at H
                          have c25b0 := eq_true c25
                          have c25b1 : decide ((ji19) ≤ (x0_3.size : Int)) = true := decide_eq_true c25
                          clear c25
                          have H' := Aside0.mk H
                          clear H
                          have p22 : 0 ≤ ((ji19) : Int) := of_decide_eq_true (by first | (with_reducible assumption) | assumption)
                          have q22 : (ji19) < (x0_3.size : Int) := of_decide_eq_true (by first | (with_reducible assumption) | assumption)
                          have hx22 := bt_at x0_3 (ji19)
                          replace p22 := eq_true p22
                          replace q22 := eq_true q22
                          go_wp2
                          go_roundg k3
                          case measure => have := HK1.out; have := HJ6.out; have := HK3.out; omega
                          case rel => exact ⟨(x0_3.extract 0 ((ji19) : Int).toNat), (by first | rfl | (simp; done) | (simp only [← hji19] <;> (first | rfl | simp)) | (simp [*]; done)), H', ⟨by have := HK1.out; have := HJ6.out; have := HK3.out; omega⟩, by repeat (first | exact Drawn0.refl _ | apply Drawn0.step)⟩
                        · rw [if_neg c25] at H
                          exact absurd H (by simp)
                      · rw [if_neg c23] at H
                        have c23b0 : ((bt x0_3 (ji19)) == 32) = false := beq_eq_false_iff_ne.mpr c23
                        have c23b1 : ((bt x0_3 (ji19)) != 32) = true := bne_iff_ne.mpr c23
                        by_cases c27 : (bt x0_3 (ji19)) ≥ 9
                        · rw [if_pos c27] at H
                          have c27b0 : decide (9 ≤ (bt x0_3 (ji19))) = true := decide_eq_true c27
                          clear c27
                          by_cases c29 : (bt x0_3 (ji19)) ≤ 13
                          · rw [if_pos c29] at H
                            have c29b0 : decide ((bt x0_3 (ji19)) ≤ 13) = true := decide_eq_true c29
                            clear c29
                            have c30b0 := eq_true (of_decide_eq_true (by first | (with_reducible assumption) | assumption) : 0 ≤ (ji19))
                            by_cases c31 : (ji19) ≤ (x0_3.size : Int)
                            · rw [if_pos c31] at H
                              have c31b0 := eq_true c31
                              have c31b1 : decide ((ji19) ≤ (x0_3.size : Int)) = true := decide_eq_true c31
                              clear c31
                              have H' := Aside0.mk H
                              clear H
                              have p22 : 0 ≤ ((ji19) : Int) := of_decide_eq_true (by first | (with_reducible assumption) | assumption)
                              have q22 : (ji19) < (x0_3.size : Int) := of_decide_eq_true (by first | (with_reducible assumption) | assumption)
                              have hx22 := bt_at x0_3 (ji19)
                              replace p22 := eq_true p22
                              replace q22 := eq_true q22
                              have p26 : 0 ≤ ((ji19) : Int) := of_decide_eq_true (by first | (with_reducible assumption) | assumption)
                              have q26 : (ji19) < (x0_3.size : Int) := of_decide_eq_true (by first | (with_reducible assumption) | assumption)
                              have hx26 := bt_at x0_3 (ji19)
                              replace p26 := eq_true p26
                              replace q26 := eq_true q26
                              have p28 : 0 ≤ ((ji19) : Int) := of_decide_eq_true (by first | (with_reducible assumption) | assumption)
                              have q28 : (ji19) < (x0_3.size : Int) := of_decide_eq_true (by first | (with_reducible assumption) | assumption)
                              have hx28 := bt_at x0_3 (ji19)
                              replace p28 := eq_true p28
                              replace q28 := eq_true q28
                              go_wp2
                              go_roundg k3
                              case measure => have := HK1.out; have := HJ6.out; have := HK3.out; omega
                              case rel => exact ⟨(x0_3.extract 0 ((ji19) : Int).toNat), (by first | rfl | (simp; done) | (simp only [← hji19] <;> (first | rfl | simp)) | (simp [*]; done)), H', ⟨by have := HK1.out; have := HJ6.out; have := HK3.out; omega⟩, by repeat (first | exact Drawn0.refl _ | apply Drawn0.step)⟩
                            · rw [if_neg c31] at H
                              exact absurd H (by simp)
                          · rw [if_neg c29] at H
                            have c29b0 : decide ((bt x0_3 (ji19)) ≤ 13) = false := decide_eq_false c29
                            clear c29
                            simp only [Option.some.injEq, Prod.mk.injEq] at H
                            obtain ⟨rfl, rfl⟩ := H
                            have p22 : 0 ≤ ((ji19) : Int) := of_decide_eq_true (by first | (with_reducible assumption) | assumption)
                            have q22 : (ji19) < (x0_3.size : Int) := of_decide_eq_true (by first | (with_reducible assumption) | assumption)
                            have hx22 := bt_at x0_3 (ji19)
                            replace p22 := eq_true p22
                            replace q22 := eq_true q22
                            have p26 : 0 ≤ ((ji19) : Int) := of_decide_eq_true (by first | (with_reducible assumption) | assumption)
                            have q26 : (ji19) < (x0_3.size : Int) := of_decide_eq_true (by first | (with_reducible assumption) | assumption)
                            have hx26 := bt_at x0_3 (ji19)
                            replace p26 := eq_true p26
                            replace q26 := eq_true q26
                            have p28 : 0 ≤ ((ji19) : Int) := of_decide_eq_true (by first | (with_reducible assumption) | assumption)
                            have q28 : (ji19) < (x0_3.size : Int) := of_decide_eq_true (by first | (with_reducible assumption) | assumption)
                            have hx28 := bt_at x0_3 (ji19)
                            replace p28 := eq_true p28
                            replace q28 := eq_true q28
                            go_wp2
                            go_ret2
                            exact ⟨by first | rfl | (simp; done) | (simp only [← hji19] <;> (first | rfl | simp)) | (simp [*]; done), by repeat (first | exact Drawn0.refl _ | apply Drawn0.step)⟩
                        · rw [if_neg c27] at H
                          have c27b0 : decide (9 ≤ (bt x0_3 (ji19))) = false := decide_eq_false c27
                          clear c27
                          simp only [Option.some.injEq, Prod.mk.injEq] at H
                          obtain ⟨rfl, rfl⟩ := H
                          have p22 : 0 ≤ ((ji19) : Int) := of_decide_eq_true (by first | (with_reducible assumption) | assumption)
                          have q22 : (ji19) < (x0_3.size : Int) := of_decide_eq_true (by first | (with_reducible assumption) | assumption)
                          have hx22 := bt_at x0_3 (ji19)
                          replace p22 := eq_true p22
                          replace q22 := eq_true q22
                          have p26 : 0 ≤ ((ji19) : Int) := of_decide_eq_true (by first | (with_reducible assumption) | assumption)
                          have q26 : (ji19) < (x0_3.size : Int) := of_decide_eq_true (by first | (with_reducible assumption) | assumption)
                          have hx26 := bt_at x0_3 (ji19)
                          replace p26 := eq_true p26
                          replace q26 := eq_true q26
                          go_wp2
                          go_ret2
                          exact ⟨by first | rfl | (simp; done) | (simp only [← hji19] <;> (first | rfl | simp)) | (simp [*]; done), by repeat (first | exact Drawn0.refl _ | apply Drawn0.step)⟩
                    · rw [if_neg c21] at H
                      exact absurd H (by simp)
                  · rw [if_neg c20] at H
                    exact absurd H (by simp)
                · rw [if_neg c18] at H
                  have c18b0 : decide (0 < (x0_3.size : Int)) = false := decide_eq_false c18
                  have c18b1 : decide (0 < x0_3.size) = false := decide_eq_false (by omega)
                  clear c18
                  simp only [Option.some.injEq, Prod.mk.injEq] at H
                  obtain ⟨rfl, rfl⟩ := H
                  go_wp2
                  go_ret2
                  exact ⟨by first | rfl | (simp; done) | (simp [*]; done), by repeat (first | exact Drawn0.refl _ | apply Drawn0.step)⟩

/-! ### spec_lower: function 23 -/
def spec_lower.f (a0 : Int) : Option (Bool) := if a0 ≥ 97 then (some (decide (a0 ≤ 122))) else (some false)
set_option maxHeartbeats 8000000 in
set_option maxRecDepth 100000 in
theorem spec_lower.calls (a0 : Int) (r : Bool) (w : World) (h : spec_lower.f a0 = some r) :
    Calls Tryd.prog 23 #[.int .u8 a0] w fun e w' => e = .returned (.bool r) ∧ Drawn0 w w' := by
  have H : (if a0 ≥ 97 then (some (decide (a0 ≤ 122))) else (some false)) = some r := h
  clear h
  by_cases c2 : a0 ≥ 97
  · rw [if_pos c2] at H
    have c2b0 : decide (97 ≤ a0) = true := decide_eq_true c2
    clear c2
    obtain rfl := Option.some.inj H
    go_enter Tryd.func23, Tryd.ntmps23
    go_wp2
    go_ret
    exact ⟨by first | rfl | (simp; done) | (simp [*]; done), by repeat (first | exact Drawn0.refl _ | apply Drawn0.step)⟩
  · rw [if_neg c2] at H
    have c2b0 : decide (97 ≤ a0) = false := decide_eq_false c2
    clear c2
    obtain rfl := Option.some.inj H
    go_enter Tryd.func23, Tryd.ntmps23
    go_wp2
    go_ret
    exact ⟨by first | rfl | (simp; done) | (simp [*]; done), by repeat (first | exact Drawn0.refl _ | apply Drawn0.step)⟩

/-! ### spec_parts: function 24 -/
def spec_parts.f (a0 : Int) : Option (Bool) := if a0 = 32 then (some true) else (if a0 = 95 then (some true) else (if a0 = 45 then (some true) else (some (a0 == 46))))
set_option maxHeartbeats 8000000 in
set_option maxRecDepth 100000 in
theorem spec_parts.calls (a0 : Int) (r : Bool) (w : World) (h : spec_parts.f a0 = some r) :
    Calls Tryd.prog 24 #[.int .u8 a0] w fun e w' => e = .returned (.bool r) ∧ Drawn0 w w' := by
  have H : (if a0 = 32 then (some true) else (if a0 = 95 then (some true) else (if a0 = 45 then (some true) else (some (a0 == 46))))) = some r := h
  clear h
  by_cases c2 : a0 = 32
  · rw [if_pos c2] at H
    have c2b0 : (a0 == 32) = true := beq_iff_eq.mpr c2
    have c2b1 : (a0 != 32) = false := bne_eq_false_iff_eq.mpr c2
    clear c2
    obtain rfl := Option.some.inj H
    go_enter Tryd.func24, Tryd.ntmps24
    go_wp2
    go_ret
    exact ⟨by first | rfl | (simp; done) | (simp [*]; done), by repeat (first | exact Drawn0.refl _ | apply Drawn0.step)⟩
  · rw [if_neg c2] at H
    have c2b0 : (a0 == 32) = false := beq_eq_false_iff_ne.mpr c2
    have c2b1 : (a0 != 32) = true := bne_iff_ne.mpr c2
    by_cases c3 : a0 = 95
    · rw [if_pos c3] at H
      have c3b0 : (a0 == 95) = true := beq_iff_eq.mpr c3
      have c3b1 : (a0 != 95) = false := bne_eq_false_iff_eq.mpr c3
      clear c3
      obtain rfl := Option.some.inj H
      go_enter Tryd.func24, Tryd.ntmps24
      go_wp2
      go_ret
      exact ⟨by first | rfl | (simp; done) | (simp [*]; done), by repeat (first | exact Drawn0.refl _ | apply Drawn0.step)⟩
    · rw [if_neg c3] at H
      have c3b0 : (a0 == 95) = false := beq_eq_false_iff_ne.mpr c3
      have c3b1 : (a0 != 95) = true := bne_iff_ne.mpr c3
      by_cases c4 : a0 = 45
      · rw [if_pos c4] at H
        have c4b0 : (a0 == 45) = true := beq_iff_eq.mpr c4
        have c4b1 : (a0 != 45) = false := bne_eq_false_iff_eq.mpr c4
        clear c4
        obtain rfl := Option.some.inj H
        go_enter Tryd.func24, Tryd.ntmps24
        go_wp2
        go_ret
        exact ⟨by first | rfl | (simp; done) | (simp [*]; done), by repeat (first | exact Drawn0.refl _ | apply Drawn0.step)⟩
      · rw [if_neg c4] at H
        have c4b0 : (a0 == 45) = false := beq_eq_false_iff_ne.mpr c4
        have c4b1 : (a0 != 45) = true := bne_iff_ne.mpr c4
        obtain rfl := Option.some.inj H
        go_enter Tryd.func24, Tryd.ntmps24
        go_wp2
        go_ret
        exact ⟨by first | rfl | (simp; done) | (simp [*]; done), by repeat (first | exact Drawn0.refl _ | apply Drawn0.step)⟩

/-! ### spec_upper: function 27 -/
def spec_upper.f (a0 : Int) : Option (Bool) := if a0 ≥ 65 then (some (decide (a0 ≤ 90))) else (some false)
set_option maxHeartbeats 8000000 in
set_option maxRecDepth 100000 in
theorem spec_upper.calls (a0 : Int) (r : Bool) (w : World) (h : spec_upper.f a0 = some r) :
    Calls Tryd.prog 27 #[.int .u8 a0] w fun e w' => e = .returned (.bool r) ∧ Drawn0 w w' := by
  have H : (if a0 ≥ 65 then (some (decide (a0 ≤ 90))) else (some false)) = some r := h
  clear h
  by_cases c2 : a0 ≥ 65
  · rw [if_pos c2] at H
    have c2b0 : decide (65 ≤ a0) = true := decide_eq_true c2
    clear c2
    obtain rfl := Option.some.inj H
    go_enter Tryd.func27, Tryd.ntmps27
    go_wp2
    go_ret
    exact ⟨by first | rfl | (simp; done) | (simp [*]; done), by repeat (first | exact Drawn0.refl _ | apply Drawn0.step)⟩
  · rw [if_neg c2] at H
    have c2b0 : decide (65 ≤ a0) = false := decide_eq_false c2
    clear c2
    obtain rfl := Option.some.inj H
    go_enter Tryd.func27, Tryd.ntmps27
    go_wp2
    go_ret
    exact ⟨by first | rfl | (simp; done) | (simp [*]; done), by repeat (first | exact Drawn0.refl _ | apply Drawn0.step)⟩

end Go.Proofs.YtpbehdlgmpmkaaaDoor.PFnDelimitedSays
