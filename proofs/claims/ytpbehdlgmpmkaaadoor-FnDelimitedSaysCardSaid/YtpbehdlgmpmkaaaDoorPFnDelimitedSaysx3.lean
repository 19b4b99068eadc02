-- PRINTED BY print.sh 35421559b90ae4d0a3588c463048766b98c2df88dd9212a6774a882060cdf62d: not written by this session
import Derived.Test.YtpbehdlgmpmkaaaDoorPFnDelimitedSaysx0
import Derived.Test.YtpbehdlgmpmkaaaDoorPFnDelimitedSaysx1
import Derived.Test.YtpbehdlgmpmkaaaDoorPFnDelimitedSaysx2
namespace Go.Proofs.YtpbehdlgmpmkaaaDoor.PFnDelimitedSays
open Go.RowKit Go.Proofs.YtpbehdlgmpmkaaaDoorW.PrintWords Go.Proofs.YtpbehdlgmpmkaaaDoorW.PrintLast Go.Proofs.YtpbehdlgmpmkaaaDoorW.PrintMore
attribute [local go_sem] max2_int min2_int max_two min_two max_three min_three max_four min_four   -- for this text's walks alone
set_option linter.unusedVariables false
set_option linter.unusedSimpArgs false

/-! ### spec_Delimited: function 9 -/
mutual
def spec_Delimited.l0 : Nat → ByteArray → Int → ByteArray → Bool → List Int → Int → Int → Option (ByteArray × Int)
  | 0, _, _, _, _, _, _, _ => none
  | k + 1, x0, x1, x2, x3, x11, x23, x24 => if x24 < x23 then (if 0 ≤ x24 then (if x24 < (x0.size : Int) then (if x2.toList = ([] : List UInt8) then (spec_Delimited.j1 k x0 x1 x2 x3 x11 x24 (bt x0 x24) x23 x24 false) else ((spec_lower.f (bt x0 x24)).bind fun t122 => (if t122 = true then (spec_Delimited.j1 k x0 x1 x2 x3 x11 x24 (bt x0 x24) x23 x24 false) else ((spec_parts.f (bt x0 x24)).bind fun t123 => (spec_Delimited.j1 k x0 x1 x2 x3 x11 x24 (bt x0 x24) x23 x24 (!t123)))))) else (none)) else (none)) else (some (strOfNums x11, 1))
def spec_Delimited.j1 : Nat → ByteArray → Int → ByteArray → Bool → List Int → Int → Int → Int → Int → Bool → Option (ByteArray × Int)
  | 0, _, _, _, _, _, _, _, _, _, _ => none
  | k + 1, x0, x1, x2, x3, x11, x12, x13, x23, x24, x41 => if x41 = true then (some ((⟨#[]⟩ : ByteArray), 2)) else ((spec_borders.f k x0 x12).bind fun t124 => (if t124 = true then (if x11.length < 140737488355328 then (spec_Delimited.j2 k x0 x1 x2 x3 (x11 ++ [x1]) x12 x13 x23 x24) else (none)) else (spec_Delimited.j2 k x0 x1 x2 x3 x11 x12 x13 x23 x24)))
def spec_Delimited.j2 : Nat → ByteArray → Int → ByteArray → Bool → List Int → Int → Int → Int → Int → Option (ByteArray × Int)
  | 0, _, _, _, _, _, _, _, _, _ => none
  | k + 1, x0, x1, x2, x3, x11, x12, x13, x23, x24 => (spec_parts.f x13).bind fun t128 => (if t128 = true then ((spec_holds.f k x2 x13).bind fun t129 => (spec_Delimited.j3 k x0 x1 x2 x3 x11 x12 x13 x23 x24 (!t129))) else (spec_Delimited.j3 k x0 x1 x2 x3 x11 x12 x13 x23 x24 false))
def spec_Delimited.j3 : Nat → ByteArray → Int → ByteArray → Bool → List Int → Int → Int → Int → Int → Bool → Option (ByteArray × Int)
  | 0, _, _, _, _, _, _, _, _, _, _ => none
  | k + 1, x0, x1, x2, x3, x11, x12, x13, x23, x24, x56 => if x56 = true then (spec_Delimited.j4 k x0 x1 x2 x3 x11 x12 x1 x23 x24) else (spec_Delimited.j4 k x0 x1 x2 x3 x11 x12 x13 x23 x24)
def spec_Delimited.j4 : Nat → ByteArray → Int → ByteArray → Bool → List Int → Int → Int → Int → Int → Option (ByteArray × Int)
  | 0, _, _, _, _, _, _, _, _, _ => none
  | k + 1, x0, x1, x2, x3, x11, x12, x13, x23, x24 => if 0 ≤ x12 then (if x12 < (x0.size : Int) then ((spec_lower.f (bt x0 x12)).bind fun t130 => (if t130 = true then ((spec_turnCase.f k x13 x3).bind fun t131 => (if x11.length < 140737488355328 then (spec_Delimited.l0 k x0 x1 x2 x3 (x11 ++ [t131]) x23 (wrap64 (x24 + 1))) else (none))) else ((spec_upper.f (bt x0 x12)).bind fun t135 => (if t135 = true then ((spec_turnCase.f k x13 x3).bind fun t136 => (if x11.length < 140737488355328 then (spec_Delimited.l0 k x0 x1 x2 x3 (x11 ++ [t136]) x23 (wrap64 (x24 + 1))) else (none))) else (if x11.length < 140737488355328 then (spec_Delimited.l0 k x0 x1 x2 x3 (x11 ++ [x13]) x23 (wrap64 (x24 + 1))) else (none)))))) else (none)) else (none)
end
def spec_Delimited.f (k : Nat) (a0 : ByteArray) (a1 : Int) (a2 : ByteArray) (a3 : Bool) : Option (ByteArray × Int) := (spec_stripped.f k a0).bind fun bt120 => (if bt120.2 = 1 then (spec_Delimited.l0 k bt120.1 a1 a2 a3 ([] : List Int) (bt120.1.size : Int) 0) else (some ((⟨#[]⟩ : ByteArray), bt120.2)))
theorem spec_Delimited.mono_l : ∀ k, (∀ y0 y1 y2 y3 y4 y5 y6, LeO (spec_Delimited.l0 k y0 y1 y2 y3 y4 y5 y6) (spec_Delimited.l0 (k + 1) y0 y1 y2 y3 y4 y5 y6)) ∧ (∀ y0 y1 y2 y3 y4 y5 y6 y7 y8 y9, LeO (spec_Delimited.j1 k y0 y1 y2 y3 y4 y5 y6 y7 y8 y9) (spec_Delimited.j1 (k + 1) y0 y1 y2 y3 y4 y5 y6 y7 y8 y9)) ∧ (∀ y0 y1 y2 y3 y4 y5 y6 y7 y8, LeO (spec_Delimited.j2 k y0 y1 y2 y3 y4 y5 y6 y7 y8) (spec_Delimited.j2 (k + 1) y0 y1 y2 y3 y4 y5 y6 y7 y8)) ∧ (∀ y0 y1 y2 y3 y4 y5 y6 y7 y8 y9, LeO (spec_Delimited.j3 k y0 y1 y2 y3 y4 y5 y6 y7 y8 y9) (spec_Delimited.j3 (k + 1) y0 y1 y2 y3 y4 y5 y6 y7 y8 y9)) ∧ (∀ y0 y1 y2 y3 y4 y5 y6 y7 y8, LeO (spec_Delimited.j4 k y0 y1 y2 y3 y4 y5 y6 y7 y8) (spec_Delimited.j4 (k + 1) y0 y1 y2 y3 y4 y5 y6 y7 y8))
  | 0 => ⟨fun _ _ _ _ _ _ _ r h => by simp [spec_Delimited.l0] at h, fun _ _ _ _ _ _ _ _ _ _ r h => by simp [spec_Delimited.j1] at h, fun _ _ _ _ _ _ _ _ _ r h => by simp [spec_Delimited.j2] at h, fun _ _ _ _ _ _ _ _ _ _ r h => by simp [spec_Delimited.j3] at h, fun _ _ _ _ _ _ _ _ _ r h => by simp [spec_Delimited.j4] at h⟩
  | k + 1 => by
    obtain ⟨ih0, ih1, ih2, ih3, ih4⟩ := spec_Delimited.mono_l k
    refine ⟨?_, ?_, ?_, ?_, ?_⟩
    · intro y0 y1 y2 y3 y4 y5 y6
      unfold spec_Delimited.l0
      repeat' first
      | (with_reducible exact ih0 _ _ _ _ _ _ _)
      | (with_reducible exact ih1 _ _ _ _ _ _ _ _ _ _)
      | (with_reducible exact ih2 _ _ _ _ _ _ _ _ _)
      | (with_reducible exact ih3 _ _ _ _ _ _ _ _ _ _)
      | (with_reducible exact ih4 _ _ _ _ _ _ _ _ _)
      | (with_reducible exact spec_borders.mono _ _ _)
      | (with_reducible exact spec_holds.mono _ _ _)
      | (with_reducible exact spec_stripped.mono _ _)
      | (with_reducible exact spec_turnCase.mono _ _ _)
      | (with_reducible exact LeO.refl _)
      | (with_reducible exact LeO.none _)
      | (with_reducible refine LeO.ite ?_ ?_)
      | (with_reducible refine LeO.bind ?_ (fun _ => ?_))
      | exact ih0 _ _ _ _ _ _ _
      | exact ih1 _ _ _ _ _ _ _ _ _ _
      | exact ih2 _ _ _ _ _ _ _ _ _
      | exact ih3 _ _ _ _ _ _ _ _ _ _
      | exact ih4 _ _ _ _ _ _ _ _ _
      | exact spec_borders.mono _ _ _
      | exact spec_holds.mono _ _ _
      | exact spec_stripped.mono _ _
      | exact spec_turnCase.mono _ _ _
      | exact LeO.none _
      | refine LeO.ite ?_ ?_
      | refine LeO.bind ?_ (fun _ => ?_)
    · intro y0 y1 y2 y3 y4 y5 y6 y7 y8 y9
      unfold spec_Delimited.j1
      repeat' first
      | (with_reducible exact ih0 _ _ _ _ _ _ _)
      | (with_reducible exact ih1 _ _ _ _ _ _ _ _ _ _)
      | (with_reducible exact ih2 _ _ _ _ _ _ _ _ _)
      | (with_reducible exact ih3 _ _ _ _ _ _ _ _ _ _)
      | (with_reducible exact ih4 _ _ _ _ _ _ _ _ _)
      | (with_reducible exact spec_borders.mono _ _ _)
      | (with_reducible exact spec_holds.mono _ _ _)
      | (with_reducible exact spec_stripped.mono _ _)
      | (with_reducible exact spec_turnCase.mono _ _ _)
      | (with_reducible exact LeO.refl _)
      | (with_reducible exact LeO.none _)
      | (with_reducible refine LeO.ite ?_ ?_)
      | (with_reducible refine LeO.bind ?_ (fun _ => ?_))
      | exact ih0 _ _ _ _ _ _ _
      | exact ih1 _ _ _ _ _ _ _ _ _ _
      | exact ih2 _ _ _ _ _ _ _ _ _
      | exact ih3 _ _ _ _ _ _ _ _ _ _
      | exact ih4 _ _ _ _ _ _ _ _ _
      | exact spec_borders.mono _ _ _
      | exact spec_holds.mono _ _ _
      | exact spec_stripped.mono _ _
      | exact spec_turnCase.mono _ _ _
      | exact LeO.none _
      | refine LeO.ite ?_ ?_
      | refine LeO.bind ?_ (fun _ => ?_)
    · intro y0 y1 y2 y3 y4 y5 y6 y7 y8
      unfold spec_Delimited.j2
      repeat' first
      | (with_reducible exact ih0 _ _ _ _ _ _ _)
      | (with_reducible exact ih1 _ _ _ _ _ _ _ _ _ _)
      | (with_reducible exact ih2 _ _ _ _ _ _ _ _ _)
      | (with_reducible exact ih3 _ _ _ _ _ _ _ _ _ _)
      | (with_reducible exact ih4 _ _ _ _ _ _ _ _ _)
      | (with_reducible exact spec_borders.mono _ _ _)
      | (with_reducible exact spec_holds.mono _ _ _)
      | (with_reducible exact spec_stripped.mono _ _)
      | (with_reducible exact spec_turnCase.mono _ _ _)
      | (with_reducible exact LeO.refl _)
      | (with_reducible exact LeO.none _)
      | (with_reducible refine LeO.ite ?_ ?_)
      | (with_reducible refine LeO.bind ?_ (fun _ => ?_))
      | exact ih0 _ _ _ _ _ _ _
      | exact ih1 _ _ _ _ _ _ _ _ _ _
      | exact ih2 _ _ _ _ _ _ _ _ _
      | exact ih3 _ _ _ _ _ _ _ _ _ _
      | exact ih4 _ _ _ _ _ _ _ _ _
      | exact spec_borders.mono _ _ _
      | exact spec_holds.mono _ _ _
      | exact spec_stripped.mono _ _
      | exact spec_turnCase.mono _ _ _
      | exact LeO.none _
      | refine LeO.ite ?_ ?_
      | refine LeO.bind ?_ (fun _ => ?_)
    · intro y0 y1 y2 y3 y4 y5 y6 y7 y8 y9
      unfold spec_Delimited.j3
      repeat' first
      | (with_reducible exact ih0 _ _ _ _ _ _ _)
      | (with_reducible exact ih1 _ _ _ _ _ _ _ _ _ _)
      | (with_reducible exact ih2 _ _ _ _ _ _ _ _ _)
      | (with_reducible exact ih3 _ _ _ _ _ _ _ _ _ _)
      | (with_reducible exact ih4 _ _ _ _ _ _ _ _ _)
      | (with_reducible exact spec_borders.mono _ _ _)
      | (with_reducible exact spec_holds.mono _ _ _)
      | (with_reducible exact spec_stripped.mono _ _)
      | (with_reducible exact spec_turnCase.mono _ _ _)
      | (with_reducible exact LeO.refl _)
      | (with_reducible exact LeO.none _)
      | (with_reducible refine LeO.ite ?_ ?_)
      | (with_reducible refine LeO.bind ?_ (fun _ => ?_))
      | exact ih0 _ _ _ _ _ _ _
      | exact ih1 _ _ _ _ _ _ _ _ _ _
      | exact ih2 _ _ _ _ _ _ _ _ _
      | exact ih3 _ _ _ _ _ _ _ _ _ _
      | exact ih4 _ _ _ _ _ _ _ _ _
      | exact spec_borders.mono _ _ _
      | exact spec_holds.mono _ _ _
      | exact spec_stripped.mono _ _
      | exact spec_turnCase.mono _ _ _
      | exact LeO.none _
      | refine LeO.ite ?_ ?_
      | refine LeO.bind ?_ (fun _ => ?_)
    · intro y0 y1 y2 y3 y4 y5 y6 y7 y8
      unfold spec_Delimited.j4
      repeat' first
      | (with_reducible exact ih0 _ _ _ _ _ _ _)
      | (with_reducible exact ih1 _ _ _ _ _ _ _ _ _ _)
      | (with_reducible exact ih2 _ _ _ _ _ _ _ _ _)
      | (with_reducible exact ih3 _ _ _ _ _ _ _ _ _ _)
      | (with_reducible exact ih4 _ _ _ _ _ _ _ _ _)
      | (with_reducible exact spec_borders.mono _ _ _)
      | (with_reducible exact spec_holds.mono _ _ _)
      | (with_reducible exact spec_stripped.mono _ _)
      | (with_reducible exact spec_turnCase.mono _ _ _)
      | (with_reducible exact LeO.refl _)
      | (with_reducible exact LeO.none _)
      | (with_reducible refine LeO.ite ?_ ?_)
      | (with_reducible refine LeO.bind ?_ (fun _ => ?_))
      | exact ih0 _ _ _ _ _ _ _
      | exact ih1 _ _ _ _ _ _ _ _ _ _
      | exact ih2 _ _ _ _ _ _ _ _ _
      | exact ih3 _ _ _ _ _ _ _ _ _ _
      | exact ih4 _ _ _ _ _ _ _ _ _
      | exact spec_borders.mono _ _ _
      | exact spec_holds.mono _ _ _
      | exact spec_stripped.mono _ _
      | exact spec_turnCase.mono _ _ _
      | exact LeO.none _
      | refine LeO.ite ?_ ?_
      | refine LeO.bind ?_ (fun _ => ?_)
theorem spec_Delimited.mono : ∀ a0 a1 a2 a3 k, LeO (spec_Delimited.f k a0 a1 a2 a3) (spec_Delimited.f (k + 1) a0 a1 a2 a3) := by
  intro a0 a1 a2 a3 k
  obtain ⟨ih0, ih1, ih2, ih3, ih4⟩ := spec_Delimited.mono_l k
  unfold spec_Delimited.f
  repeat' first
      | (with_reducible exact ih0 _ _ _ _ _ _ _)
      | (with_reducible exact ih1 _ _ _ _ _ _ _ _ _ _)
      | (with_reducible exact ih2 _ _ _ _ _ _ _ _ _)
      | (with_reducible exact ih3 _ _ _ _ _ _ _ _ _ _)
      | (with_reducible exact ih4 _ _ _ _ _ _ _ _ _)
      | (with_reducible exact spec_borders.mono _ _ _)
      | (with_reducible exact spec_holds.mono _ _ _)
      | (with_reducible exact spec_stripped.mono _ _)
      | (with_reducible exact spec_turnCase.mono _ _ _)
      | (with_reducible exact LeO.refl _)
      | (with_reducible exact LeO.none _)
      | (with_reducible refine LeO.ite ?_ ?_)
      | (with_reducible refine LeO.bind ?_ (fun _ => ?_))
      | exact ih0 _ _ _ _ _ _ _
      | exact ih1 _ _ _ _ _ _ _ _ _ _
      | exact ih2 _ _ _ _ _ _ _ _ _
      | exact ih3 _ _ _ _ _ _ _ _ _ _
      | exact ih4 _ _ _ _ _ _ _ _ _
      | exact spec_borders.mono _ _ _
      | exact spec_holds.mono _ _ _
      | exact spec_stripped.mono _ _
      | exact spec_turnCase.mono _ _ _
      | exact LeO.none _
      | refine LeO.ite ?_ ?_
      | refine LeO.bind ?_ (fun _ => ?_)
set_option maxHeartbeats 8000000 in
set_option maxRecDepth 100000 in
theorem spec_Delimited.calls (k : Nat) (a0 : ByteArray) (a1 : Int) (a2 : ByteArray) (a3 : Bool) (r1 : ByteArray) (r2 : Int) (w : World) (h : spec_Delimited.f k a0 a1 a2 a3 = some (r1, r2)) :
    Calls Tryd.prog 9 #[.string a0, .int .u8 a1, .string a2, .bool a3] w fun e w' => e = .returned (.tuple #[.string r1, .int .i64 r2]) ∧ Below w.heap.size w w' := by
  have HB := Aside0.mk (Below.refl w.heap.size w)
  have H : ((spec_stripped.f k a0).bind fun bt120 => (if bt120.2 = 1 then (spec_Delimited.l0 k bt120.1 a1 a2 a3 ([] : List Int) (bt120.1.size : Int) 0) else (some ((⟨#[]⟩ : ByteArray), bt120.2)))) = some (r1, r2) := h
  clear h
  replace H := Option.bind_eq_some_iff.mp H
  obtain ⟨⟨t120, t121⟩, A50, H⟩ := H
  replace H : (if t121 = 1 then (spec_Delimited.l0 k t120 a1 a2 a3 ([] : List Int) (t120.size : Int) 0) else (some ((⟨#[]⟩ : ByteArray), t121))) = some (r1, r2) := H
  have A5 := Aside0.mk A50
  clear A50
  by_cases c6 : t121 = 1
  · rw [if_pos c6] at H
    have c6b0 : (t121 == 1) = true := beq_iff_eq.mpr c6
    have c6b1 : (t121 != 1) = false := bne_eq_false_iff_eq.mpr c6
    clear c6
    have H' := Aside0.mk H
    clear H
    go_enter Tryd.func9, Tryd.ntmps9
    go_wp2_with (first | ((with_reducible refine gate_callee (f := 22) rfl ?_); refine goesL_ (some 16) rfl rfl Tryd.func22 (by kernel_rfl) rfl #[.string a0] rfl (by (try simp only [List.map_toArray, List.map_cons, List.map_nil]); first | done | rfl | (simp only [List.length_drop, List.length_take]; rfl)) ?_; (with_reducible refine (spec_stripped.calls k a0 t120 t121 _ A5.out).mono ?_); rintro e w' ⟨rfl, ⟨nd, rfl⟩⟩; refine ⟨_, rfl, ?_⟩))
    go_loopg [11, 24] k (fun kq v11 v24 w' => ∃ (x11_1 : List Int) (x24_1 : Int), v24 = .int .i64 x24_1 ∧ Aside0 (spec_Delimited.l0 kq t120 a1 a2 a3 x11_1 (t120.size : Int) x24_1 = some (r1, r2)) ∧ Aside0 (kq ≤ k) ∧ Aside0 (Kd.R (Kd.int .u8) 5 w' w.heap.size (fun _ => True) v11 x11_1) ∧ Aside0 (Below w.heap.size w w'))
    case atStart => exact ⟨(([] : List Int)), (0), (by first | rfl | (simp; done) | (simp [*]; done)), H', ⟨Nat.le_refl _⟩, ⟨by first | exact Kd.R_nil _ _ _ _ _ | exact Kd.N_nil _ _ _ _ _ | exact Kd.V_nil _ _ _ _ _ | exact Kd.Q_nil _ _ _ _ _ | exact Kd.S_nil _ _ _ _ _⟩, ⟨by repeat (first | (with_reducible first | exact HB.out | apply below_alloc | apply pw_below_drewN | apply below_drew1) | exact HB.out)⟩⟩
    case round =>
      clear H'
      try clear c2
      try clear p2
      try clear c6
      try clear c6b0
      try clear c6b1
      obtain ⟨x11_1, x24_1, rfl, HA, HK1, HO_11, HB⟩ := hrel
      cases gk with
      | zero => exact absurd HA.out (by simp [spec_Delimited.l0])
      | succ k1 =>
        have H := HA.out
        clear HA
        simp only [spec_Delimited.l0] at H
        by_cases c7 : x24_1 < (t120.size : Int)
        · rw [if_pos c7] at H
          have c7b0 : decide (x24_1 < (t120.size : Int)) = true := decide_eq_true c7
          clear c7
          by_cases c8 : 0 ≤ x24_1
          · rw [if_pos c8] at H
            have c8b0 : decide (0 ≤ x24_1) = true := decide_eq_true c8
            clear c8
            by_cases c9 : x24_1 < (t120.size : Int)
            · rw [if_pos c9] at H
              have c9b0 : decide (x24_1 < (t120.size : Int)) = true := decide_eq_true c9
              clear c9
              have HC11 := Aside0.mk H
              clear H
              have p10 : 0 ≤ (x24_1 : Int) := of_decide_eq_true (by first | (with_reducible assumption) | assumption)
              have q10 : x24_1 < (t120.size : Int) := of_decide_eq_true (by first | (with_reducible assumption) | assumption)
              have hx10 := bt_at t120 x24_1
              replace p10 := eq_true p10
              replace q10 := eq_true q10
              go_upto_region 9 with (fail)
              go_cut [41] (fun v41 wc => ∃ (kq : Nat) (x41_10 : Bool), v41 = .bool x41_10 ∧ Aside0 (spec_Delimited.j1 kq t120 a1 a2 a3 x11_1 x24_1 (bt t120 x24_1) (t120.size : Int) x24_1 x41_10 = some (r1, r2)) ∧ Aside0 (kq ≤ k1) ∧ Aside0 (Kd.R (Kd.int .u8) 5 wc w.heap.size (fun _ => True) u11 x11_1) ∧ Aside0 (Below w.heap.size w wc))
              case first =>
                have H := HC11.out
                clear HC11
                by_cases c12 : a2.toList = ([] : List UInt8)
                · rw [if_pos c12] at H
                  have c12b0 : (a2.toList == ([] : List UInt8)) = true := beq_iff_eq.mpr c12
                  have c12b1 : (a2.toList != ([] : List UInt8)) = false := bne_eq_false_iff_eq.mpr c12
                  clear c12
                  (first | rw [c12b0] | (simp only [i64_w, i32_w]; rw [c12b0]) | skip)
                  have H' := Aside0.mk H
                  clear H
                  go_wp2
                  go_meet
                  case rel => exact ⟨_, (false), (by first | rfl | (simp; done) | (simp [*]; done)), H', ⟨by have := HK1.out; first | omega | exact Nat.le_refl _⟩, ⟨by (with_reducible repeat (first | apply Kd.R_alloc | apply Kd.R_drewN | apply Kd.R_drew)); exact HO_11.out⟩, ⟨by repeat (first | (with_reducible first | exact HB.out | apply below_alloc | apply pw_below_drewN | apply below_drew1) | exact HB.out)⟩⟩
                · rw [if_neg c12] at H
                  have c12b0 : (a2.toList == ([] : List UInt8)) = false := beq_eq_false_iff_ne.mpr c12
                  have c12b1 : (a2.toList != ([] : List UInt8)) = true := bne_iff_ne.mpr c12
                  (first | rw [c12b0] | (simp only [i64_w, i32_w]; rw [c12b0]) | skip)
                  replace H := Option.bind_eq_some_iff.mp H
                  obtain ⟨t122, A130, H⟩ := H
                  replace H : (if t122 = true then (spec_Delimited.j1 k1 t120 a1 a2 a3 x11_1 x24_1 (bt t120 x24_1) (t120.size : Int) x24_1 false) else ((spec_parts.f (bt t120 x24_1)).bind fun t123 => (spec_Delimited.j1 k1 t120 a1 a2 a3 x11_1 x24_1 (bt t120 x24_1) (t120.size : Int) x24_1 (!t123)))) = some (r1, r2) := H
                  have A13 := Aside0.mk A130
                  clear A130
                  by_cases c14 : t122 = true
                  · subst c14
                    have H1 : (spec_Delimited.j1 k1 t120 a1 a2 a3 x11_1 x24_1 (bt t120 x24_1) (t120.size : Int) x24_1 false) = some (r1, r2) := by rw [if_pos rfl] at H; exact H
                    clear H
                    have H := H1
                    clear H1
                    have H' := Aside0.mk H
                    clear H
                    go_wp2_with (first | (go_at_call 23; (with_reducible refine (spec_lower.calls (bt t120 x24_1) true _ A13.out).mono ?_); rintro e w' ⟨rfl, ⟨nd, rfl⟩⟩))
                    go_meet
                    case rel => exact ⟨_, (false), (by first | rfl | (simp; done) | (simp [*]; done)), H', ⟨by have := HK1.out; first | omega | exact Nat.le_refl _⟩, ⟨by (with_reducible repeat (first | apply Kd.R_alloc | apply Kd.R_drewN | apply Kd.R_drew)); exact HO_11.out⟩, ⟨by repeat (first | (with_reducible first | exact HB.out | apply below_alloc | apply pw_below_drewN | apply below_drew1) | exact HB.out)⟩⟩
                  · replace c14 := Bool.eq_false_iff.mpr c14
                    subst c14
                    have H1 : ((spec_parts.f (bt t120 x24_1)).bind fun t123 => (spec_Delimited.j1 k1 t120 a1 a2 a3 x11_1 x24_1 (bt t120 x24_1) (t120.size : Int) x24_1 (!t123))) = some (r1, r2) := by rw [if_neg (show ¬ (false = true) by decide)] at H; exact H
                    clear H
                    have H := H1
                    clear H1
                    replace H := Option.bind_eq_some_iff.mp H
                    obtain ⟨t123, A150, H⟩ := H
                    replace H : (spec_Delimited.j1 k1 t120 a1 a2 a3 x11_1 x24_1 (bt t120 x24_1) (t120.size : Int) x24_1 (!t123)) = some (r1, r2) := H
                    have A15 := Aside0.mk A150
                    clear A150
                    have H' := Aside0.mk H
                    clear H
                    go_wp2_with (first | (go_at_call 23; (with_reducible refine (spec_lower.calls (bt t120 x24_1) false _ A13.out).mono ?_); rintro e w' ⟨rfl, ⟨nd, rfl⟩⟩) | (go_at_call 24; (with_reducible refine (spec_parts.calls (bt t120 x24_1) t123 _ A15.out).mono ?_); rintro e w' ⟨rfl, ⟨nd, rfl⟩⟩))
                    go_meet
                    case rel => exact ⟨_, (!t123), (by first | rfl | (simp; done) | (simp [*]; done)), H', ⟨by have := HK1.out; first | omega | exact Nat.le_refl _⟩, ⟨by (with_reducible repeat (first | apply Kd.R_alloc | apply Kd.R_drewN | apply Kd.R_drew)); exact HO_11.out⟩, ⟨by repeat (first | (with_reducible first | exact HB.out | apply below_alloc | apply pw_below_drewN | apply below_drew1) | exact HB.out)⟩⟩
              case rest =>
                clear HC11
                try clear c1
                try clear p1
                try clear q1
                try clear hx1
                try clear c2
                try clear p2
                try clear c6
                try clear c6b0
                try clear c6b1
                try clear c7
                try clear c7b0
                try clear c8
                try clear c8b0
                try clear c9
                try clear c9b0
                try clear p10
                try clear q10
                try clear hx10
                try clear c12
                try clear c12b0
                try clear c12b1
                try clear c14
                try clear p10
                try clear p2
                try clear q10
                obtain ⟨kq, x41_10, rfl, HA, HJ10, HO_11, HB⟩ := hcut
                cases kq with
                | zero => exact absurd HA.out (by simp [spec_Delimited.j1])
                | succ kj10 =>
                  have H := HA.out
                  clear HA
                  simp only [spec_Delimited.j1] at H
                  by_cases c16 : x41_10 = true
                  · subst c16
                    have H1 : (some ((⟨#[]⟩ : ByteArray), 2)) = some (r1, r2) := by rw [if_pos rfl] at H; exact H
                    clear H
                    have H := H1
                    clear H1
                    simp only [Option.some.injEq, Prod.mk.injEq] at H
                    obtain ⟨rfl, rfl⟩ := H
                    go_wp2
                    go_ret2
                    exact ⟨by first | rfl | (simp [errW_none, errW_some] <;> rfl) | (simp [*, errW_none, errW_some] <;> rfl), by repeat (first | (with_reducible first | exact HB.out | apply below_alloc | apply pw_below_drewN | apply below_drew1) | exact HB.out)⟩
                  · replace c16 := Bool.eq_false_iff.mpr c16
                    subst c16
                    have H1 : ((spec_borders.f kj10 t120 x24_1).bind fun t124 => (if t124 = true then (if x11_1.length < 140737488355328 then (spec_Delimited.j2 kj10 t120 a1 a2 a3 (x11_1 ++ [a1]) x24_1 (bt t120 x24_1) (t120.size : Int) x24_1) else (none)) else (spec_Delimited.j2 kj10 t120 a1 a2 a3 x11_1 x24_1 (bt t120 x24_1) (t120.size : Int) x24_1))) = some (r1, r2) := by rw [if_neg (show ¬ (false = true) by decide)] at H; exact H
                    clear H
                    have H := H1
                    clear H1
                    replace H := Option.bind_eq_some_iff.mp H
                    obtain ⟨t124, A170, H⟩ := H
                    replace H : (if t124 = true then (if x11_1.length < 140737488355328 then (spec_Delimited.j2 kj10 t120 a1 a2 a3 (x11_1 ++ [a1]) x24_1 (bt t120 x24_1) (t120.size : Int) x24_1) else (none)) else (spec_Delimited.j2 kj10 t120 a1 a2 a3 x11_1 x24_1 (bt t120 x24_1) (t120.size : Int) x24_1)) = some (r1, r2) := H
                    have A17 := Aside0.mk A170
                    clear A170
                    have HC18 := Aside0.mk H
                    clear H
                    go_upto_if 44 with (first | ((with_reducible refine gate_callee (f := 25) rfl ?_); refine goesL_ (some 44) rfl rfl Tryd.func25 (by kernel_rfl) rfl #[.string t120, .int .i64 x24_1] rfl (by (try simp only [List.map_toArray, List.map_cons, List.map_nil]); first | done | rfl | (simp only [List.length_drop, List.length_take]; rfl)) ?_; (with_reducible refine (spec_borders.calls kj10 t120 x24_1 t124 _ A17.out).mono ?_); rintro e w' ⟨rfl, ⟨nd, rfl⟩⟩; refine ⟨_, rfl, ?_⟩))
                    (try simp only [Act.put, List.setIfInBounds_toArray, List.set_cons_zero, List.set_cons_succ])
                    go_cut [11] (fun v11 wc => ∃ (kq : Nat) (x11_17 : List Int), Aside0 (spec_Delimited.j2 kq t120 a1 a2 a3 x11_17 x24_1 (bt t120 x24_1) (t120.size : Int) x24_1 = some (r1, r2)) ∧ Aside0 (kq ≤ kj10) ∧ Aside0 (Kd.R (Kd.int .u8) 5 wc w.heap.size (fun _ => True) v11 x11_17) ∧ Aside0 (Below w.heap.size w wc))
                    case first =>
                      have H := HC18.out
                      clear HC18
                      by_cases c19 : t124 = true
                      · subst c19
                        have H1 : (if x11_1.length < 140737488355328 then (spec_Delimited.j2 kj10 t120 a1 a2 a3 (x11_1 ++ [a1]) x24_1 (bt t120 x24_1) (t120.size : Int) x24_1) else (none)) = some (r1, r2) := by rw [if_pos rfl] at H; exact H
                        clear H
                        have H := H1
                        clear H1
                        by_cases c20 : x11_1.length < 140737488355328
                        · rw [if_pos c20] at H
                          have LMc20 := Aside0.mk c20
                          clear c20
                          obtain ⟨y125, hy125⟩ : ∃ y_ : List Int, y_ = (x11_1 ++ [a1]) := ⟨_, rfl⟩
                          replace H : (spec_Delimited.j2 kj10 t120 a1 a2 a3 y125 x24_1 (bt t120 x24_1) (t120.size : Int) x24_1) = some (r1, r2) := by first | (rw [hy125]; with_reducible exact H) | (have H2_ := (Option.bind_some _ _).symm.trans H; rw [hy125]; with_reducible exact H2_) | (have H2_ := (Option.bind_some _ _).symm.trans H; with_reducible exact H2_) | with_reducible exact H | (rw [hy125]; exact H) | exact H
                          have Ny125 := Aside0.mk hy125
                          clear hy125
                          have H' := Aside0.mk H
                          clear H
                          go_wp2_with (first | ((with_reducible refine gate_builtin (b := .append) (xs := #[.tmp 45, .tmp 47]) rfl ?_); at_builtin; refine Kd.R_append (Kd.int .u8) (w0 := w) w.heap.size rfl (.tmp 45) (.tmp 47) 35 5 (.int .u8 0) 1 rfl Tryd.underlying35 info5 rfl (by decide) (by omega) u11 x11_1 a1 [.int .u8 a1] (fun _ => True) (fun _ => False) rfl rfl ?aP (fun _ hk => hk.elim) ?aF ?aO ?aB ?aS ?aL ?_; (case aP => exact rfl); (case aB => exact (by repeat (first | (with_reducible first | exact HB.out | apply below_alloc | apply pw_below_drewN | apply below_drew1) | exact HB.out))); (case aF => exact (fun _ _ => trivial)); (case aO => exact (by (with_reducible repeat (first | apply Kd.R_alloc | apply Kd.R_drewN | apply Kd.R_drew)); exact HO_11.out)); (case aS => exact (below_size (by repeat (first | (with_reducible first | exact HB.out | apply below_alloc | apply pw_below_drewN | apply below_drew1) | exact HB.out)))); (case aL => have := LMc20.out; omega); intro v126 w21 ho hb hg hat; rw [← Ny125.out] at ho; have n0_ := Aside0.mk (hb); have n1_ := Aside0.mk (ho); clear HB; clear HO_11; have HB := n0_; have HO127 := n1_; clear n0_ n1_; clear ho hb hg hat))
                          go_meet
                          case rel => exact ⟨_, (y125), H', ⟨by have := HK1.out; have := HJ10.out; first | omega | exact Nat.le_refl _⟩, ⟨by (with_reducible repeat (first | apply Kd.R_alloc | apply Kd.R_drewN | apply Kd.R_drew)); exact HO127.out⟩, ⟨by repeat (first | (with_reducible first | exact HB.out | apply below_alloc | apply pw_below_drewN | apply below_drew1) | exact HB.out)⟩⟩
                        · rw [if_neg c20] at H
                          exact absurd H (by simp)
                      · replace c19 := Bool.eq_false_iff.mpr c19
                        subst c19
                        have H1 : (spec_Delimited.j2 kj10 t120 a1 a2 a3 x11_1 x24_1 (bt t120 x24_1) (t120.size : Int) x24_1) = some (r1, r2) := by rw [if_neg (show ¬ (false = true) by decide)] at H; exact H
                        clear H
                        have H := H1
                        clear H1
                        have H' := Aside0.mk H
                        clear H
                        go_wp2
                        go_meet
                        case rel => exact ⟨_, (x11_1), H', ⟨by have := HK1.out; have := HJ10.out; first | omega | exact Nat.le_refl _⟩, ⟨by (with_reducible repeat (first | apply Kd.R_alloc | apply Kd.R_drewN | apply Kd.R_drew)); exact HO_11.out⟩, ⟨by repeat (first | (with_reducible first | exact HB.out | apply below_alloc | apply pw_below_drewN | apply below_drew1) | exact HB.out)⟩⟩
                    case rest =>
                      clear HC18
                      try clear c1
                      try clear p1
                      try clear q1
                      try clear hx1
                      try clear c2
                      try clear p2
                      try clear c6
                      try clear c6b0
                      try clear c6b1
                      try clear c7
                      try clear c7b0
                      try clear c8
                      try clear c8b0
                      try clear c9
                      try clear c9b0
                      try clear p10
                      try clear q10
                      try clear hx10
                      try clear c12
                      try clear c12b0
                      try clear c12b1
                      try clear c14
                      try clear c16
                      try clear c19
                      try clear c20
                      try clear p1
                      try clear p10
                      try clear p2
                      try clear q1
                      try clear q10
                      obtain ⟨kq, x11_17, HA, HJ17, HO_11, HB⟩ := hcut
                      cases kq with
                      | zero => exact absurd HA.out (by simp [spec_Delimited.j2])
                      | succ kj17 =>
                        have H := HA.out
                        clear HA
                        simp only [spec_Delimited.j2] at H
                        have HC22 := Aside0.mk H
                        clear H
                        go_upto_region 13 with (fail)
                        go_cut [56] (fun v56 wc => ∃ (kq : Nat) (x56_21 : Bool), v56 = .bool x56_21 ∧ Aside0 (spec_Delimited.j3 kq t120 a1 a2 a3 x11_17 x24_1 (bt t120 x24_1) (t120.size : Int) x24_1 x56_21 = some (r1, r2)) ∧ Aside0 (kq ≤ kj17) ∧ Aside0 (Kd.R (Kd.int .u8) 5 wc w.heap.size (fun _ => True) u11 x11_17) ∧ Aside0 (Below w.heap.size w wc))
                        case first =>
                          have H := HC22.out
                          clear HC22
                          replace H := Option.bind_eq_some_iff.mp H
                          obtain ⟨t128, A230, H⟩ := H
                          replace H : (if t128 = true then ((spec_holds.f kj17 a2 (bt t120 x24_1)).bind fun t129 => (spec_Delimited.j3 kj17 t120 a1 a2 a3 x11_17 x24_1 (bt t120 x24_1) (t120.size : Int) x24_1 (!t129))) else (spec_Delimited.j3 kj17 t120 a1 a2 a3 x11_17 x24_1 (bt t120 x24_1) (t120.size : Int) x24_1 false)) = some (r1, r2) := H
                          have A23 := Aside0.mk A230
                          clear A230
                          by_cases c24 : t128 = true
                          · subst c24
                            have H1 : ((spec_holds.f kj17 a2 (bt t120 x24_1)).bind fun t129 => (spec_Delimited.j3 kj17 t120 a1 a2 a3 x11_17 x24_1 (bt t120 x24_1) (t120.size : Int) x24_1 (!t129))) = some (r1, r2) := by rw [if_pos rfl] at H; exact H
                            clear H
                            have H := H1
                            clear H1
                            replace H := Option.bind_eq_some_iff.mp H
                            obtain ⟨t129, A250, H⟩ := H
                            replace H : (spec_Delimited.j3 kj17 t120 a1 a2 a3 x11_17 x24_1 (bt t120 x24_1) (t120.size : Int) x24_1 (!t129)) = some (r1, r2) := H
                            have A25 := Aside0.mk A250
                            clear A250
                            have H' := Aside0.mk H
                            clear H
                            go_wp2_with (first | ((with_reducible refine gate_callee (f := 24) rfl ?_); refine goesL_ (some 50) rfl rfl Tryd.func24 (by kernel_rfl) rfl #[.int .u8 (bt t120 x24_1)] rfl (by (try simp only [List.map_toArray, List.map_cons, List.map_nil]); first | done | rfl | (simp only [List.length_drop, List.length_take]; rfl)) ?_; (with_reducible refine (spec_parts.calls (bt t120 x24_1) true _ A23.out).mono ?_); rintro e w' ⟨rfl, ⟨nd, rfl⟩⟩; refine ⟨_, rfl, ?_⟩) | (go_at_call 26; (with_reducible refine (spec_holds.calls kj17 a2 (bt t120 x24_1) t129 _ A25.out).mono ?_); rintro e w' ⟨rfl, ⟨nd, rfl⟩⟩))
                            go_meet
                            case rel => exact ⟨_, (!t129), (by first | rfl | (simp; done) | (simp [*]; done)), H', ⟨by have := HK1.out; have := HJ10.out; have := HJ17.out; first | omega | exact Nat.le_refl _⟩, ⟨by (with_reducible repeat (first | apply Kd.R_alloc | apply Kd.R_drewN | apply Kd.R_drew)); exact HO_11.out⟩, ⟨by repeat (first | (with_reducible first | exact HB.out | apply below_alloc | apply pw_below_drewN | apply below_drew1) | exact HB.out)⟩⟩
                          · replace c24 := Bool.eq_false_iff.mpr c24
                            subst c24
                            have H1 : (spec_Delimited.j3 kj17 t120 a1 a2 a3 x11_17 x24_1 (bt t120 x24_1) (t120.size : Int) x24_1 false) = some (r1, r2) := by rw [if_neg (show ¬ (false = true) by decide)] at H; exact H
                            clear H
                            have H := H1
                            clear H1
                            have H' := Aside0.mk H
                            clear H
                            go_wp2_with (first | ((with_reducible refine gate_callee (f := 24) rfl ?_); refine goesL_ (some 50) rfl rfl Tryd.func24 (by kernel_rfl) rfl #[.int .u8 (bt t120 x24_1)] rfl (by (try simp only [List.map_toArray, List.map_cons, List.map_nil]); first | done | rfl | (simp only [List.length_drop, List.length_take]; rfl)) ?_; (with_reducible refine (spec_parts.calls (bt t120 x24_1) false _ A23.out).mono ?_); rintro e w' ⟨rfl, ⟨nd, rfl⟩⟩; refine ⟨_, rfl, ?_⟩))
                            go_meet
                            case rel => exact ⟨_, (false), (by first | rfl | (simp; done) | (simp [*]; done)), H', ⟨by have := HK1.out; have := HJ10.out; have := HJ17.out; first | omega | exact Nat.le_refl _⟩, ⟨by (with_reducible repeat (first | apply Kd.R_alloc | apply Kd.R_drewN | apply Kd.R_drew)); exact HO_11.out⟩, ⟨by repeat (first | (with_reducible first | exact HB.out | apply below_alloc | apply pw_below_drewN | apply below_drew1) | exact HB.out)⟩⟩
                        case rest =>
                          clear HC22
                          try clear c1
                          try clear p1
                          try clear q1
                          try clear hx1
                          try clear c2
                          try clear p2
                          try clear c6
                          try clear c6b0
                          try clear c6b1
                          try clear c7
                          try clear c7b0
                          try clear c8
                          try clear c8b0
                          try clear c9
                          try clear c9b0
                          try clear p10
                          try clear q10
                          try clear hx10
                          try clear c12
                          try clear c12b0
                          try clear c12b1
                          try clear c14
                          try clear c16
                          try clear c19
                          try clear c20
                          try clear c22
                          try clear c24
                          try clear c25
                          try clear p1
                          try clear p10
                          try clear p2
                          try clear q1
                          try clear q10
                          obtain ⟨kq, x56_21, rfl, HA, HJ21, HO_11, HB⟩ := hcut
                          cases kq with
                          | zero => exact absurd HA.out (by simp [spec_Delimited.j3])
                          | succ kj21 =>
                            have H := HA.out
                            clear HA
                            simp only [spec_Delimited.j3] at H
                            have HC26 := Aside0.mk H
                            clear H
                            go_upto_if 56 with (fail)
                            go_cut [13] (fun v13 wc => ∃ (kq : Nat) (x13_25 : Int), v13 = .int .u8 x13_25 ∧ Aside0 (spec_Delimited.j4 kq t120 a1 a2 a3 x11_17 x24_1 x13_25 (t120.size : Int) x24_1 = some (r1, r2)) ∧ Aside0 (kq ≤ kj21) ∧ Aside0 (Kd.R (Kd.int .u8) 5 wc w.heap.size (fun _ => True) u11 x11_17) ∧ Aside0 (Below w.heap.size w wc))
                            case first =>
                              have H := HC26.out
                              clear HC26
                              by_cases c27 : x56_21 = true
                              · subst c27
                                have H1 : (spec_Delimited.j4 kj21 t120 a1 a2 a3 x11_17 x24_1 a1 (t120.size : Int) x24_1) = some (r1, r2) := by rw [if_pos rfl] at H; exact H
                                clear H
                                have H := H1
                                clear H1
                                have H' := Aside0.mk H
                                clear H
                                go_wp2
                                go_meet
                                case rel => exact ⟨_, (a1), (by first | rfl | (simp; done) | (simp [*]; done)), H', ⟨by have := HK1.out; have := HJ10.out; have := HJ17.out; have := HJ21.out; first | omega | exact Nat.le_refl _⟩, ⟨by (with_reducible repeat (first | apply Kd.R_alloc | apply Kd.R_drewN | apply Kd.R_drew)); exact HO_11.out⟩, ⟨by repeat (first | (with_reducible first | exact HB.out | apply below_alloc | apply pw_below_drewN | apply below_drew1) | exact HB.out)⟩⟩
                              · replace c27 := Bool.eq_false_iff.mpr c27
                                subst c27
                                have H1 : (spec_Delimited.j4 kj21 t120 a1 a2 a3 x11_17 x24_1 (bt t120 x24_1) (t120.size : Int) x24_1) = some (r1, r2) := by rw [if_neg (show ¬ (false = true) by decide)] at H; exact H
                                clear H
                                have H := H1
                                clear H1
                                have H' := Aside0.mk H
                                clear H
                                go_wp2
                                go_meet
                                case rel => exact ⟨_, ((bt t120 x24_1)), (by first | rfl | (simp; done) | (simp [*]; done)), H', ⟨by have := HK1.out; have := HJ10.out; have := HJ17.out; have := HJ21.out; first | omega | exact Nat.le_refl _⟩, ⟨by (with_reducible repeat (first | apply Kd.R_alloc | apply Kd.R_drewN | apply Kd.R_drew)); exact HO_11.out⟩, ⟨by repeat (first | (with_reducible first | exact HB.out | apply below_alloc | apply pw_below_drewN | apply below_drew1) | exact HB.out)⟩⟩
                            case rest =>
                              clear HC26
                              try clear c1
                              try clear p1
                              try clear q1
                              try clear hx1
                              try clear c2
                              try clear p2
                              try clear c6
                              try clear c6b0
                              try clear c6b1
                              try clear c7
                              try clear c7b0
                              try clear c8
                              try clear c8b0
                              try clear c9
                              try clear c9b0
                              try clear p10
                              try clear q10
                              try clear hx10
                              try clear c12
                              try clear c12b0
                              try clear c12b1
                              try clear c14
                              try clear c16
                              try clear c19
                              try clear c20
                              try clear c22
                              try clear c24
                              try clear c25
                              try clear c27
                              try clear p1
                              try clear p10
                              try clear p2
                              try clear q1
                              try clear q10
                              obtain ⟨kq, x13_25, rfl, HA, HJ25, HO_11, HB⟩ := hcut
                              cases kq with
                              | zero => exact absurd HA.out (by simp [spec_Delimited.j4])
                              | succ kj25 =>
                                have H := HA.out
                                clear HA
                                simp only [spec_Delimited.j4] at H
                                by_cases c28 : 0 ≤ x24_1
                                · rw [if_pos c28] at H
                                  have c28b0 : decide (0 ≤ x24_1) = true := decide_eq_true c28
                                  clear c28
                                  by_cases c29 : x24_1 < (t120.size : Int)
                                  · rw [if_pos c29] at H
                                    have c29b0 : decide (x24_1 < (t120.size : Int)) = true := decide_eq_true c29
                                    clear c29
                                    replace H := Option.bind_eq_some_iff.mp H
                                    obtain ⟨t130, A310, H⟩ := H
                                    replace H : (if t130 = true then ((spec_turnCase.f kj25 x13_25 a3).bind fun t131 => (if x11_17.length < 140737488355328 then (spec_Delimited.l0 kj25 t120 a1 a2 a3 (x11_17 ++ [t131]) (t120.size : Int) (wrap64 (x24_1 + 1))) else (none))) else ((spec_upper.f (bt t120 x24_1)).bind fun t135 => (if t135 = true then ((spec_turnCase.f kj25 x13_25 a3).bind fun t136 => (if x11_17.length < 140737488355328 then (spec_Delimited.l0 kj25 t120 a1 a2 a3 (x11_17 ++ [t136]) (t120.size : Int) (wrap64 (x24_1 + 1))) else (none))) else (if x11_17.length < 140737488355328 then (spec_Delimited.l0 kj25 t120 a1 a2 a3 (x11_17 ++ [x13_25]) (t120.size : Int) (wrap64 (x24_1 + 1))) else (none))))) = some (r1, r2) := H
                                    have A31 := Aside0.mk A310
                                    clear A310
                                    by_cases c32 : t130 = true
                                    · subst c32
                                      have H1 : ((spec_turnCase.f kj25 x13_25 a3).bind fun t131 => (if x11_17.length < 140737488355328 then (spec_Delimited.l0 kj25 t120 a1 a2 a3 (x11_17 ++ [t131]) (t120.size : Int) (wrap64 (x24_1 + 1))) else (none))) = some (r1, r2) := by rw [if_pos rfl] at H; exact H
                                      clear H
                                      have H := H1
                                      clear H1
                                      replace H := Option.bind_eq_some_iff.mp H
                                      obtain ⟨t131, A330, H⟩ := H
                                      replace H : (if x11_17.length < 140737488355328 then (spec_Delimited.l0 kj25 t120 a1 a2 a3 (x11_17 ++ [t131]) (t120.size : Int) (wrap64 (x24_1 + 1))) else (none)) = some (r1, r2) := H
                                      have A33 := Aside0.mk A330
                                      clear A330
                                      by_cases c34 : x11_17.length < 140737488355328
                                      · rw [if_pos c34] at H
                                        have LMc34 := Aside0.mk c34
                                        clear c34
                                        obtain ⟨y132, hy132⟩ : ∃ y_ : List Int, y_ = (x11_17 ++ [t131]) := ⟨_, rfl⟩
                                        replace H : (spec_Delimited.l0 kj25 t120 a1 a2 a3 y132 (t120.size : Int) (wrap64 (x24_1 + 1))) = some (r1, r2) := by first | (rw [hy132]; with_reducible exact H) | (have H2_ := (Option.bind_some _ _).symm.trans H; rw [hy132]; with_reducible exact H2_) | (have H2_ := (Option.bind_some _ _).symm.trans H; with_reducible exact H2_) | with_reducible exact H | (rw [hy132]; exact H) | exact H
                                        have Ny132 := Aside0.mk hy132
                                        clear hy132
                                        have H' := Aside0.mk H
                                        clear H
                                        have p30 : 0 ≤ (x24_1 : Int) := of_decide_eq_true (by first | (with_reducible assumption) | assumption)
                                        have q30 : x24_1 < (t120.size : Int) := of_decide_eq_true (by first | (with_reducible assumption) | assumption)
                                        have hx30 := bt_at t120 x24_1
                                        replace p30 := eq_true p30
                                        replace q30 := eq_true q30
                                        go_wp2_with (first | ((with_reducible refine gate_callee (f := 23) rfl ?_); refine goesL_ (some 61) rfl rfl Tryd.func23 (by kernel_rfl) rfl #[.int .u8 (bt t120 x24_1)] rfl (by (try simp only [List.map_toArray, List.map_cons, List.map_nil]); first | done | rfl | (simp only [List.length_drop, List.length_take]; rfl)) ?_; (with_reducible refine (spec_lower.calls (bt t120 x24_1) true _ A31.out).mono ?_); rintro e w' ⟨rfl, ⟨nd, rfl⟩⟩; refine ⟨_, rfl, ?_⟩) | ((with_reducible refine gate_callee (f := 28) rfl ?_); refine goesL_ (some 70) rfl rfl Tryd.func28 (by kernel_rfl) rfl #[.int .u8 x13_25, .bool a3] rfl (by (try simp only [List.map_toArray, List.map_cons, List.map_nil]); first | done | rfl | (simp only [List.length_drop, List.length_take]; rfl)) ?_; (with_reducible refine (spec_turnCase.calls kj25 x13_25 a3 t131 _ A33.out).mono ?_); rintro e w' ⟨rfl, ⟨nd, rfl⟩⟩; refine ⟨_, rfl, ?_⟩) | ((with_reducible refine gate_builtin (b := .append) (xs := #[.tmp 71, .tmp 73]) rfl ?_); at_builtin; refine Kd.R_append (Kd.int .u8) (w0 := w) w.heap.size rfl (.tmp 71) (.tmp 73) 35 5 (.int .u8 0) 1 rfl Tryd.underlying35 info5 rfl (by decide) (by omega) u11 x11_17 t131 [.int .u8 t131] (fun _ => True) (fun _ => False) rfl rfl ?aP (fun _ hk => hk.elim) ?aF ?aO ?aB ?aS ?aL ?_; (case aP => exact rfl); (case aB => exact (by repeat (first | (with_reducible first | exact HB.out | apply below_alloc | apply pw_below_drewN | apply below_drew1) | exact HB.out))); (case aF => exact (fun _ _ => trivial)); (case aO => exact (by (with_reducible repeat (first | apply Kd.R_alloc | apply Kd.R_drewN | apply Kd.R_drew)); exact HO_11.out)); (case aS => exact (below_size (by repeat (first | (with_reducible first | exact HB.out | apply below_alloc | apply pw_below_drewN | apply below_drew1) | exact HB.out)))); (case aL => have := LMc34.out; omega); intro v133 w35 ho hb hg hat; rw [← Ny132.out] at ho; have n0_ := Aside0.mk (hb); have n1_ := Aside0.mk (ho); clear HB; clear HO_11; have HB := n0_; have HO134 := n1_; clear n0_ n1_; clear ho hb hg hat))
                                        go_roundg kj25
                                        case measure => have := HK1.out; have := HJ10.out; have := HJ17.out; have := HJ21.out; have := HJ25.out; omega
                                        case rel => exact ⟨(y132), (wrap64 (x24_1 + 1)), (by first | rfl | (simp; done) | (simp [*]; done)), H', ⟨by have := HK1.out; have := HJ10.out; have := HJ17.out; have := HJ21.out; have := HJ25.out; omega⟩, ⟨by (with_reducible repeat (first | apply Kd.R_alloc | apply Kd.R_drewN | apply Kd.R_drew)); exact HO134.out⟩, ⟨by repeat (first | (with_reducible first | exact HB.out | apply below_alloc | apply pw_below_drewN | apply below_drew1) | exact HB.out)⟩⟩
                                      · rw [if_neg c34] at H
                                        exact absurd H (by simp)
                                    · replace c32 := Bool.eq_false_iff.mpr c32
                                      subst c32
                                      have H1 : ((spec_upper.f (bt t120 x24_1)).bind fun t135 => (if t135 = true then ((spec_turnCase.f kj25 x13_25 a3).bind fun t136 => (if x11_17.length < 140737488355328 then (spec_Delimited.l0 kj25 t120 a1 a2 a3 (x11_17 ++ [t136]) (t120.size : Int) (wrap64 (x24_1 + 1))) else (none))) else (if x11_17.length < 140737488355328 then (spec_Delimited.l0 kj25 t120 a1 a2 a3 (x11_17 ++ [x13_25]) (t120.size : Int) (wrap64 (x24_1 + 1))) else (none)))) = some (r1, r2) := by rw [if_neg (show ¬ (false = true) by decide)] at H; exact H
                                      clear H
                                      have H := H1
                                      clear H1
                                      replace H := Option.bind_eq_some_iff.mp H
                                      obtain ⟨t135, A370, H⟩ := H
                                      replace H : (if t135 = true then ((spec_turnCase.f kj25 x13_25 a3).bind fun t136 => (if x11_17.length < 140737488355328 then (spec_Delimited.l0 kj25 t120 a1 a2 a3 (x11_17 ++ [t136]) (t120.size : Int) (wrap64 (x24_1 + 1))) else (none))) else (if x11_17.length < 140737488355328 then (spec_Delimited.l0 kj25 t120 a1 a2 a3 (x11_17 ++ [x13_25]) (t120.size : Int) (wrap64 (x24_1 + 1))) else (none))) = some (r1, r2) := H
                                      have A37 := Aside0.mk A370
                                      clear A370
                                      by_cases c38 : t135 = true
                                      · subst c38
                                        have H1 : ((spec_turnCase.f kj25 x13_25 a3).bind fun t136 => (if x11_17.length < 140737488355328 then (spec_Delimited.l0 kj25 t120 a1 a2 a3 (x11_17 ++ [t136]) (t120.size : Int) (wrap64 (x24_1 + 1))) else (none))) = some (r1, r2) := by rw [if_pos rfl] at H; exact H
                                        clear H
                                        have H := H1
                                        clear H1
                                        replace H := Option.bind_eq_some_iff.mp H
                                        obtain ⟨t136, A390, H⟩ := H
                                        replace H : (if x11_17.length < 140737488355328 then (spec_Delimited.l0 kj25 t120 a1 a2 a3 (x11_17 ++ [t136]) (t120.size : Int) (wrap64 (x24_1 + 1))) else (none)) = some (r1, r2) := H
                                        have A39 := Aside0.mk A390
                                        clear A390
                                        by_cases c40 : x11_17.length < 140737488355328
                                        · rw [if_pos c40] at H
                                          have LMc40 := Aside0.mk c40
                                          clear c40
                                          obtain ⟨y137, hy137⟩ : ∃ y_ : List Int, y_ = (x11_17 ++ [t136]) := ⟨_, rfl⟩
                                          replace H : (spec_Delimited.l0 kj25 t120 a1 a2 a3 y137 (t120.size : Int) (wrap64 (x24_1 + 1))) = some (r1, r2) := by first | (rw [hy137]; with_reducible exact H) | (have H2_ := (Option.bind_some _ _).symm.trans H; rw [hy137]; with_reducible exact H2_) | (have H2_ := (Option.bind_some _ _).symm.trans H; with_reducible exact H2_) | with_reducible exact H | (rw [hy137]; exact H) | exact H
                                          have Ny137 := Aside0.mk hy137
                                          clear hy137
                                          have H' := Aside0.mk H
                                          clear H
                                          have p30 : 0 ≤ (x24_1 : Int) := of_decide_eq_true (by first | (with_reducible assumption) | assumption)
                                          have q30 : x24_1 < (t120.size : Int) := of_decide_eq_true (by first | (with_reducible assumption) | assumption)
                                          have hx30 := bt_at t120 x24_1
                                          replace p30 := eq_true p30
                                          replace q30 := eq_true q30
                                          go_wp2_with (first | ((with_reducible refine gate_callee (f := 23) rfl ?_); refine goesL_ (some 61) rfl rfl Tryd.func23 (by kernel_rfl) rfl #[.int .u8 (bt t120 x24_1)] rfl (by (try simp only [List.map_toArray, List.map_cons, List.map_nil]); first | done | rfl | (simp only [List.length_drop, List.length_take]; rfl)) ?_; (with_reducible refine (spec_lower.calls (bt t120 x24_1) false _ A31.out).mono ?_); rintro e w' ⟨rfl, ⟨nd, rfl⟩⟩; refine ⟨_, rfl, ?_⟩; have p36 : 0 ≤ (x24_1 : Int) := of_decide_eq_true (by first | (with_reducible assumption) | assumption); have q36 : x24_1 < (t120.size : Int) := of_decide_eq_true (by first | (with_reducible assumption) | assumption); have hx36 := bt_at t120 x24_1; replace p36 := eq_true p36; replace q36 := eq_true q36) | (go_at_call 27; (with_reducible refine (spec_upper.calls (bt t120 x24_1) true _ A37.out).mono ?_); rintro e w' ⟨rfl, ⟨nd, rfl⟩⟩) | ((with_reducible refine gate_callee (f := 28) rfl ?_); refine goesL_ (some 70) rfl rfl Tryd.func28 (by kernel_rfl) rfl #[.int .u8 x13_25, .bool a3] rfl (by (try simp only [List.map_toArray, List.map_cons, List.map_nil]); first | done | rfl | (simp only [List.length_drop, List.length_take]; rfl)) ?_; (with_reducible refine (spec_turnCase.calls kj25 x13_25 a3 t136 _ A39.out).mono ?_); rintro e w' ⟨rfl, ⟨nd, rfl⟩⟩; refine ⟨_, rfl, ?_⟩) | ((with_reducible refine gate_builtin (b := .append) (xs := #[.tmp 71, .tmp 73]) rfl ?_); at_builtin; refine Kd.R_append (Kd.int .u8) (w0 := w) w.heap.size rfl (.tmp 71) (.tmp 73) 35 5 (.int .u8 0) 1 rfl Tryd.underlying35 info5 rfl (by decide) (by omega) u11 x11_17 t136 [.int .u8 t136] (fun _ => True) (fun _ => False) rfl rfl ?aP (fun _ hk => hk.elim) ?aF ?aO ?aB ?aS ?aL ?_; (case aP => exact rfl); (case aB => exact (by repeat (first | (with_reducible first | exact HB.out | apply below_alloc | apply pw_below_drewN | apply below_drew1) | exact HB.out))); (case aF => exact (fun _ _ => trivial)); (case aO => exact (by (with_reducible repeat (first | apply Kd.R_alloc | apply Kd.R_drewN | apply Kd.R_drew)); exact HO_11.out)); (case aS => exact (below_size (by repeat (first | (with_reducible first | exact HB.out | apply below_alloc | apply pw_below_drewN | apply below_drew1) | exact HB.out)))); (case aL => have := LMc40.out; omega); intro v138 w41 ho hb hg hat; rw [← Ny137.out] at ho; have n0_ := Aside0.mk (hb); have n1_ := Aside0.mk (ho); clear HB; clear HO_11; have HB := n0_; have HO139 := n1_; clear n0_ n1_; clear ho hb hg hat))
                                          go_roundg kj25
                                          case measure => have := HK1.out; have := HJ10.out; have := HJ17.out; have := HJ21.out; have := HJ25.out; omega
                                          case rel => exact ⟨(y137), (wrap64 (x24_1 + 1)), (by first | rfl | (simp; done) | (simp [*]; done)), H', ⟨by have := HK1.out; have := HJ10.out; have := HJ17.out; have := HJ21.out; have := HJ25.out; omega⟩, ⟨by (with_reducible repeat (first | apply Kd.R_alloc | apply Kd.R_drewN | apply Kd.R_drew)); exact HO139.out⟩, ⟨by repeat (first | (with_reducible first | exact HB.out | apply below_alloc | apply pw_below_drewN | apply below_drew1) | exact HB.out)⟩⟩
                                        · rw [if_neg c40] at H
                                          exact absurd H (by simp)
                                      · replace c38 := Bool.eq_false_iff.mpr c38
                                        subst c38
                                        have H1 : (if x11_17.length < 140737488355328 then (spec_Delimited.l0 kj25 t120 a1 a2 a3 (x11_17 ++ [x13_25]) (t120.size : Int) (wrap64 (x24_1 + 1))) else (none)) = some (r1, r2) := by rw [if_neg (show ¬ (false = true) by decide)] at H; exact H
                                        clear H
                                        have H := H1
                                        clear H1
                                        by_cases c42 : x11_17.length < 140737488355328
                                        · rw [if_pos c42] at H
                                          have LMc42 := Aside0.mk c42
                                          clear c42
                                          obtain ⟨y140, hy140⟩ : ∃ y_ : List Int, y_ = (x11_17 ++ [x13_25]) := ⟨_, rfl⟩
                                          replace H : (spec_Delimited.l0 kj25 t120 a1 a2 a3 y140 (t120.size : Int) (wrap64 (x24_1 + 1))) = some (r1, r2) := by first | (rw [hy140]; with_reducible exact H) | (have H2_ := (Option.bind_some _ _).symm.trans H; rw [hy140]; with_reducible exact H2_) | (have H2_ := (Option.bind_some _ _).symm.trans H; with_reducible exact H2_) | with_reducible exact H | (rw [hy140]; exact H) | exact H
                                          have Ny140 := Aside0.mk hy140
                                          clear hy140
                                          have H' := Aside0.mk H
                                          clear H
                                          have p30 : 0 ≤ (x24_1 : Int) := of_decide_eq_true (by first | (with_reducible assumption) | assumption)
                                          have q30 : x24_1 < (t120.size : Int) := of_decide_eq_true (by first | (with_reducible assumption) | assumption)
                                          have hx30 := bt_at t120 x24_1
                                          replace p30 := eq_true p30
                                          replace q30 := eq_true q30
                                          go_wp2_with (first | ((with_reducible refine gate_callee (f := 23) rfl ?_); refine goesL_ (some 61) rfl rfl Tryd.func23 (by kernel_rfl) rfl #[.int .u8 (bt t120 x24_1)] rfl (by (try simp only [List.map_toArray, List.map_cons, List.map_nil]); first | done | rfl | (simp only [List.length_drop, List.length_take]; rfl)) ?_; (with_reducible refine (spec_lower.calls (bt t120 x24_1) false _ A31.out).mono ?_); rintro e w' ⟨rfl, ⟨nd, rfl⟩⟩; refine ⟨_, rfl, ?_⟩; have p36 : 0 ≤ (x24_1 : Int) := of_decide_eq_true (by first | (with_reducible assumption) | assumption); have q36 : x24_1 < (t120.size : Int) := of_decide_eq_true (by first | (with_reducible assumption) | assumption); have hx36 := bt_at t120 x24_1; replace p36 := eq_true p36; replace q36 := eq_true q36) | (go_at_call 27; (with_reducible refine (spec_upper.calls (bt t120 x24_1) false _ A37.out).mono ?_); rintro e w' ⟨rfl, ⟨nd, rfl⟩⟩) | ((with_reducible refine gate_builtin (b := .append) (xs := #[.tmp 71, .tmp 73]) rfl ?_); at_builtin; refine Kd.R_append (Kd.int .u8) (w0 := w) w.heap.size rfl (.tmp 71) (.tmp 73) 35 5 (.int .u8 0) 1 rfl Tryd.underlying35 info5 rfl (by decide) (by omega) u11 x11_17 x13_25 [.int .u8 x13_25] (fun _ => True) (fun _ => False) rfl rfl ?aP (fun _ hk => hk.elim) ?aF ?aO ?aB ?aS ?aL ?_; (case aP => exact rfl); (case aB => exact (by repeat (first | (with_reducible first | exact HB.out | apply below_alloc | apply pw_below_drewN | apply below_drew1) | exact HB.out))); (case aF => exact (fun _ _ => trivial)); (case aO => exact (by (with_reducible repeat (first | apply Kd.R_alloc | apply Kd.R_drewN | apply Kd.R_drew)); exact HO_11.out)); (case aS => exact (below_size (by repeat (first | (with_reducible first | exact HB.out | apply below_alloc | apply pw_below_drewN | apply below_drew1) | exact HB.out)))); (case aL => have := LMc42.out; omega); intro v141 w43 ho hb hg hat; rw [← Ny140.out] at ho; have n0_ := Aside0.mk (hb); have n1_ := Aside0.mk (ho); clear HB; clear HO_11; have HB := n0_; have HO142 := n1_; clear n0_ n1_; clear ho hb hg hat))
                                          go_roundg kj25
                                          case measure => have := HK1.out; have := HJ10.out; have := HJ17.out; have := HJ21.out; have := HJ25.out; omega
                                          case rel => exact ⟨(y140), (wrap64 (x24_1 + 1)), (by first | rfl | (simp; done) | (simp [*]; done)), H', ⟨by have := HK1.out; have := HJ10.out; have := HJ17.out; have := HJ21.out; have := HJ25.out; omega⟩, ⟨by (with_reducible repeat (first | apply Kd.R_alloc | apply Kd.R_drewN | apply Kd.R_drew)); exact HO142.out⟩, ⟨by repeat (first | (with_reducible first | exact HB.out | apply below_alloc | apply pw_below_drewN | apply below_drew1) | exact HB.out)⟩⟩
                                        · rw [if_neg c42] at H
                                          exact absurd H (by simp)
                                  · rw [if_neg c29] at H
                                    exact absurd H (by simp)
                                · rw [if_neg c28] at H
                                  exact absurd H (by simp)
            · rw [if_neg c9] at H
              exact absurd H (by simp)
          · rw [if_neg c8] at H
            exact absurd H (by simp)
        · rw [if_neg c7] at H
          have c7b0 : decide (x24_1 < (t120.size : Int)) = false := decide_eq_false c7
          clear c7
          simp only [Option.some.injEq, Prod.mk.injEq] at H
          obtain ⟨rfl, rfl⟩ := H
          have hcv44 := own_string (P := Tryd.prog) Tryd.underlying35 Tryd.underlying5 Tryd.underlying9 (Kd.own_of_R HO_11.out)
          go_wp2
          go_ret2
          exact ⟨by first | rfl | (simp [errW_none, errW_some] <;> rfl) | (simp [*, errW_none, errW_some] <;> rfl), by repeat (first | (with_reducible first | exact HB.out | apply below_alloc | apply pw_below_drewN | apply below_drew1) | exact HB.out)⟩
  · rw [if_neg c6] at H
    have c6b0 : (t121 == 1) = false := beq_eq_false_iff_ne.mpr c6
    have c6b1 : (t121 != 1) = true := bne_iff_ne.mpr c6
    simp only [Option.some.injEq, Prod.mk.injEq] at H
    obtain ⟨rfl, rfl⟩ := H
    go_enter Tryd.func9, Tryd.ntmps9
    go_wp2_with (first | ((with_reducible refine gate_callee (f := 22) rfl ?_); refine goesL_ (some 16) rfl rfl Tryd.func22 (by kernel_rfl) rfl #[.string a0] rfl (by (try simp only [List.map_toArray, List.map_cons, List.map_nil]); first | done | rfl | (simp only [List.length_drop, List.length_take]; rfl)) ?_; (with_reducible refine (spec_stripped.calls k a0 t120 t121 _ A5.out).mono ?_); rintro e w' ⟨rfl, ⟨nd, rfl⟩⟩; refine ⟨_, rfl, ?_⟩))
    go_ret2
    exact ⟨by first | rfl | (simp [errW_none, errW_some] <;> rfl) | (simp [*, errW_none, errW_some] <;> rfl), by repeat (first | (with_reducible first | exact HB.out | apply below_alloc | apply pw_below_drewN | apply below_drew1) | exact HB.out)⟩

/-! ### laws_told: function 10 -/
def laws_told.f (a0 : ByteArray) (a1 : ByteArray) (a2 : Int) : Option (Bool) := if a2 = 1 then (some (a0.toList == a1.toList)) else (some true)
set_option maxHeartbeats 8000000 in
set_option maxRecDepth 100000 in
theorem laws_told.calls (a0 : ByteArray) (a1 : ByteArray) (a2 : Int) (r : Bool) (w : World) (h : laws_told.f a0 a1 a2 = some r) :
    Calls Tryd.prog 10 #[.string a0, .string a1, .int .i64 a2] w fun e w' => e = .returned (.bool r) ∧ Drawn0 w w' := by
  have H : (if a2 = 1 then (some (a0.toList == a1.toList)) else (some true)) = some r := h
  clear h
  by_cases c4 : a2 = 1
  · rw [if_pos c4] at H
    have c4b0 : (a2 == 1) = true := beq_iff_eq.mpr c4
    have c4b1 : (a2 != 1) = false := bne_eq_false_iff_eq.mpr c4
    clear c4
    obtain rfl := Option.some.inj H
    go_enter Tryd.func10, Tryd.ntmps10
    go_wp2
    go_ret
    exact ⟨by first | rfl | (simp; done) | (simp [*]; done), by repeat (first | exact Drawn0.refl _ | apply Drawn0.step)⟩
  · rw [if_neg c4] at H
    have c4b0 : (a2 == 1) = false := beq_eq_false_iff_ne.mpr c4
    have c4b1 : (a2 != 1) = true := bne_iff_ne.mpr c4
    obtain rfl := Option.some.inj H
    go_enter Tryd.func10, Tryd.ntmps10
    go_wp2
    go_ret
    exact ⟨by first | rfl | (simp; done) | (simp [*]; done), by repeat (first | exact Drawn0.refl _ | apply Drawn0.step)⟩

-- NOT PRINTED: function 3 (laws_FnDelimitedSays)

end Go.Proofs.YtpbehdlgmpmkaaaDoor.PFnDelimitedSays
