-- PRINTED BY print.sh 35421559b90ae4d0a3588c463048766b98c2df88dd9212a6774a882060cdf62d: not written by this session
import Derived.Test.YtobcoplfniojkaaPFnPartitionx0
namespace Go.Proofs.Ytobcoplfniojkaa.PFnPartition
open Go.RowKit Go.Proofs.YtobcoplfniojkaaW.PrintWords Go.Proofs.YtobcoplfniojkaaW.PrintLast Go.Proofs.YtobcoplfniojkaaW.PrintMore
attribute [local go_sem] max2_int min2_int max_two min_two max_three min_three max_four min_four   -- for this text's walks alone
set_option linter.unusedVariables false
set_option linter.unusedSimpArgs false

/-! ### xstrings_zzIndex: function 15 -/
def xstrings_zzIndex.l0 : Nat → ByteArray → ByteArray → Int → Option (Int)
  | 0, _, _, _ => none
  | k + 1, x0, x1, x5 => if (wrap64 (x5 + (x1.size : Int))) ≤ (x0.size : Int) then (if 0 ≤ x5 then (if x5 ≤ (wrap64 (x5 + (x1.size : Int))) then (if (x0.extract (x5 : Int).toNat ((wrap64 (x5 + (x1.size : Int))) : Int).toNat).toList = x1.toList then (some x5) else (xstrings_zzIndex.l0 k x0 x1 (wrap64 (x5 + 1)))) else (none)) else (none)) else (some (-1))
def xstrings_zzIndex.f (k : Nat) (a0 : ByteArray) (a1 : ByteArray) : Option (Int) := xstrings_zzIndex.l0 k a0 a1 0
theorem xstrings_zzIndex.mono_l : ∀ k, (∀ y0 y1 y2, LeO (xstrings_zzIndex.l0 k y0 y1 y2) (xstrings_zzIndex.l0 (k + 1) y0 y1 y2))
  | 0 => fun _ _ _ r h => by simp [xstrings_zzIndex.l0] at h
  | k + 1 => by
    have ih0 := xstrings_zzIndex.mono_l k
    · intro y0 y1 y2
      unfold xstrings_zzIndex.l0
      repeat' first
      | (with_reducible exact ih0 _ _ _)
      | (with_reducible exact LeO.refl _)
      | (with_reducible exact LeO.none _)
      | (with_reducible refine LeO.ite ?_ ?_)
      | (with_reducible refine LeO.bind ?_ (fun _ => ?_))
      | exact ih0 _ _ _
      | exact LeO.none _
      | refine LeO.ite ?_ ?_
      | refine LeO.bind ?_ (fun _ => ?_)
theorem xstrings_zzIndex.mono : ∀ a0 a1 k, LeO (xstrings_zzIndex.f k a0 a1) (xstrings_zzIndex.f (k + 1) a0 a1) := by
  intro a0 a1 k
  have ih0 := xstrings_zzIndex.mono_l k
  unfold xstrings_zzIndex.f
  repeat' first
      | (with_reducible exact ih0 _ _ _)
      | (with_reducible exact LeO.refl _)
      | (with_reducible exact LeO.none _)
      | (with_reducible refine LeO.ite ?_ ?_)
      | (with_reducible refine LeO.bind ?_ (fun _ => ?_))
      | exact ih0 _ _ _
      | exact LeO.none _
      | refine LeO.ite ?_ ?_
      | refine LeO.bind ?_ (fun _ => ?_)
set_option maxHeartbeats 8000000 in
set_option maxRecDepth 100000 in
theorem xstrings_zzIndex.calls (k : Nat) (a0 : ByteArray) (a1 : ByteArray) (r : Int) (w : World) (h : xstrings_zzIndex.f k a0 a1 = some r) :
    Calls Try.prog 15 #[.string a0, .string a1] w fun e w' => e = .returned (.int .i64 r) ∧ Drawn0 w w' := by
  have H : (xstrings_zzIndex.l0 k a0 a1 0) = some r := h
  clear h
  have H' := Aside0.mk H
  clear H
  go_enter Try.func15, Try.ntmps15
  go_wp2
  go_loopg [5] k (fun kq v5 w' => ∃ (x5_1 : Int), v5 = .int .i64 x5_1 ∧ Aside0 (xstrings_zzIndex.l0 kq a0 a1 x5_1 = some r) ∧ Aside0 (kq ≤ k) ∧ Drawn0 w w')
  case atStart => exact ⟨(0), (by first | rfl | (simp; done) | (simp [*]; done)), H', ⟨Nat.le_refl _⟩, by repeat (first | exact Drawn0.refl _ | apply Drawn0.step)⟩
  case round =>
    clear H'
    try clear c1
    try clear p2
    obtain ⟨x5_1, rfl, HA, HK1, ⟨m1, rfl⟩⟩ := hrel
    cases gk with
    | zero => exact absurd HA.out (by simp [xstrings_zzIndex.l0])
    | succ k1 =>
      have H := HA.out
      clear HA
      simp only [xstrings_zzIndex.l0] at H
      by_cases c3 : (wrap64 (x5_1 + (a1.size : Int))) ≤ (a0.size : Int)
      · rw [if_pos c3] at H
        have c3b0 : decide ((wrap64 (x5_1 + (a1.size : Int))) ≤ (a0.size : Int)) = true := decide_eq_true c3
        clear c3
        by_cases c4 : 0 ≤ x5_1
        · rw [if_pos c4] at H
          have c4b0 := eq_true c4
          have c4b1 : decide (0 ≤ x5_1) = true := decide_eq_true c4
          clear c4
          by_cases c5 : x5_1 ≤ (wrap64 (x5_1 + (a1.size : Int)))
          · rw [if_pos c5] at H
            have c5b0 := eq_true c5
            have c5b1 : decide (x5_1 ≤ (wrap64 (x5_1 + (a1.size : Int)))) = true := decide_eq_true c5
            have c6b0 := eq_true (of_decide_eq_true (by first | (with_reducible assumption) | assumption) : (wrap64 (x5_1 + (a1.size : Int))) ≤ (a0.size : Int))
            by_cases c7 : (a0.extract (x5_1 : Int).toNat ((wrap64 (x5_1 + (a1.size : Int))) : Int).toNat).toList = a1.toList
            · rw [if_pos c7] at H
              have c7b0 : ((a0.extract (x5_1 : Int).toNat ((wrap64 (x5_1 + (a1.size : Int))) : Int).toNat).toList == a1.toList) = true := beq_iff_eq.mpr c7
              have c7b1 : ((a0.extract (x5_1 : Int).toNat ((wrap64 (x5_1 + (a1.size : Int))) : Int).toNat).toList != a1.toList) = false := bne_eq_false_iff_eq.mpr c7
              clear c7
              obtain rfl := Option.some.inj H
              go_wp2
              go_ret
              exact ⟨by first | rfl | (simp; done) | (simp [*]; done), by repeat (first | exact Drawn0.refl _ | apply Drawn0.step)⟩
            · rw [if_neg c7] at H
              have c7b0 : ((a0.extract (x5_1 : Int).toNat ((wrap64 (x5_1 + (a1.size : Int))) : Int).toNat).toList == a1.toList) = false := beq_eq_false_iff_ne.mpr c7
              have c7b1 : ((a0.extract (x5_1 : Int).toNat ((wrap64 (x5_1 + (a1.size : Int))) : Int).toNat).toList != a1.toList) = true := bne_iff_ne.mpr c7
              have H' := Aside0.mk H
              clear H
              go_wp2
              go_roundg k1
              case measure => have := HK1.out; omega
              case rel => exact ⟨(wrap64 (x5_1 + 1)), (by first | rfl | (simp; done) | (simp [*]; done)), H', ⟨by have := HK1.out; omega⟩, by repeat (first | exact Drawn0.refl _ | apply Drawn0.step)⟩
          · rw [if_neg c5] at H
            exact absurd H (by simp)
        · rw [if_neg c4] at H
          exact absurd H (by simp)
      · rw [if_neg c3] at H
        have c3b0 : decide ((wrap64 (x5_1 + (a1.size : Int))) ≤ (a0.size : Int)) = false := decide_eq_false c3
        clear c3
        obtain rfl := Option.some.inj H
        go_wp2
        go_ret
        exact ⟨by first | rfl | (simp; done) | (simp [*]; done), by repeat (first | exact Drawn0.refl _ | apply Drawn0.step)⟩

/-! ### xstrings_Partition: function 13 -/
def xstrings_Partition.f (k : Nat) (a0 : ByteArray) (a1 : ByteArray) : Option (ByteArray × ByteArray × ByteArray) := (xstrings_zzIndex.f k a0 a1).bind fun t101 => (if t101 = (-1) then (some (a0, (⟨#[]⟩ : ByteArray), (⟨#[]⟩ : ByteArray))) else (if 0 ≤ t101 then (if t101 ≤ (a0.size : Int) then (if t101 ≤ (wrap64 (t101 + (a1.size : Int))) then (if (wrap64 (t101 + (a1.size : Int))) ≤ (a0.size : Int) then (if 0 ≤ (wrap64 (t101 + (a1.size : Int))) then (some (a0.extract 0 (t101 : Int).toNat, a0.extract (t101 : Int).toNat ((wrap64 (t101 + (a1.size : Int))) : Int).toNat, a0.extract ((wrap64 (t101 + (a1.size : Int))) : Int).toNat a0.size)) else (none)) else (none)) else (none)) else (none)) else (none)))
theorem xstrings_Partition.mono : ∀ a0 a1 k, LeO (xstrings_Partition.f k a0 a1) (xstrings_Partition.f (k + 1) a0 a1) := by
  intro a0 a1 k
  unfold xstrings_Partition.f
  repeat' first
      | (with_reducible exact xstrings_zzIndex.mono _ _ _)
      | (with_reducible exact LeO.refl _)
      | (with_reducible exact LeO.none _)
      | (with_reducible refine LeO.ite ?_ ?_)
      | (with_reducible refine LeO.bind ?_ (fun _ => ?_))
      | exact xstrings_zzIndex.mono _ _ _
      | exact LeO.none _
      | refine LeO.ite ?_ ?_
      | refine LeO.bind ?_ (fun _ => ?_)
set_option maxHeartbeats 8000000 in
set_option maxRecDepth 100000 in
theorem xstrings_Partition.calls (k : Nat) (a0 : ByteArray) (a1 : ByteArray) (r1 : ByteArray) (r2 : ByteArray) (r3 : ByteArray) (w : World) (h : xstrings_Partition.f k a0 a1 = some (r1, r2, r3)) :
    Calls Try.prog 13 #[.string a0, .string a1] w fun e w' => e = .returned (.tuple #[.string r1, .string r2, .string r3]) ∧ Drawn0 w w' := by
  have H : ((xstrings_zzIndex.f k a0 a1).bind fun t101 => (if t101 = (-1) then (some (a0, (⟨#[]⟩ : ByteArray), (⟨#[]⟩ : ByteArray))) else (if 0 ≤ t101 then (if t101 ≤ (a0.size : Int) then (if t101 ≤ (wrap64 (t101 + (a1.size : Int))) then (if (wrap64 (t101 + (a1.size : Int))) ≤ (a0.size : Int) then (if 0 ≤ (wrap64 (t101 + (a1.size : Int))) then (some (a0.extract 0 (t101 : Int).toNat, a0.extract (t101 : Int).toNat ((wrap64 (t101 + (a1.size : Int))) : Int).toNat, a0.extract ((wrap64 (t101 + (a1.size : Int))) : Int).toNat a0.size)) else (none)) else (none)) else (none)) else (none)) else (none)))) = some (r1, r2, r3) := h
  clear h
  replace H := Option.bind_eq_some_iff.mp H
  obtain ⟨t101, A30, H⟩ := H
  replace H : (if t101 = (-1) then (some (a0, (⟨#[]⟩ : ByteArray), (⟨#[]⟩ : ByteArray))) else (if 0 ≤ t101 then (if t101 ≤ (a0.size : Int) then (if t101 ≤ (wrap64 (t101 + (a1.size : Int))) then (if (wrap64 (t101 + (a1.size : Int))) ≤ (a0.size : Int) then (if 0 ≤ (wrap64 (t101 + (a1.size : Int))) then (some (a0.extract 0 (t101 : Int).toNat, a0.extract (t101 : Int).toNat ((wrap64 (t101 + (a1.size : Int))) : Int).toNat, a0.extract ((wrap64 (t101 + (a1.size : Int))) : Int).toNat a0.size)) else (none)) else (none)) else (none)) else (none)) else (none))) = some (r1, r2, r3) := H
  have A3 := Aside0.mk A30
  clear A30
  by_cases c4 : t101 = (-1)
  · rw [if_pos c4] at H
    have c4b0 : (t101 == (-1)) = true := beq_iff_eq.mpr c4
    have c4b1 : (t101 != (-1)) = false := bne_eq_false_iff_eq.mpr c4
    clear c4
    simp only [Option.some.injEq, Prod.mk.injEq] at H
    obtain ⟨rfl, rfl, rfl⟩ := H
    go_enter Try.func13, Try.ntmps13
    go_wp2_with (first | ((with_reducible refine gate_callee (f := 15) rfl ?_); refine goesL_ (some 10) rfl rfl Try.func15 (by kernel_rfl) rfl #[.string a0, .string a1] rfl (by (try simp only [List.map_toArray, List.map_cons, List.map_nil]); first | done | rfl | (simp only [List.length_drop, List.length_take]; rfl)) ?_; (with_reducible refine (xstrings_zzIndex.calls k a0 a1 t101 _ A3.out).mono ?_); rintro e w' ⟨rfl, ⟨nd, rfl⟩⟩; refine ⟨_, rfl, ?_⟩))
    go_ret3
    exact ⟨by first | rfl | (simp; done) | (simp [*]; done), by repeat (first | exact Drawn0.refl _ | apply Drawn0.step)⟩
  · rw [if_neg c4] at H
    have c4b0 : (t101 == (-1)) = false := beq_eq_false_iff_ne.mpr c4
    have c4b1 : (t101 != (-1)) = true := bne_iff_ne.mpr c4
    by_cases c5 : 0 ≤ t101
    · rw [if_pos c5] at H
      have c5b0 := eq_true c5
      have c5b1 : decide (0 ≤ t101) = true := decide_eq_true c5
      clear c5
      by_cases c6 : t101 ≤ (a0.size : Int)
      · rw [if_pos c6] at H
        have c6b0 := eq_true c6
        have c6b1 : decide (t101 ≤ (a0.size : Int)) = true := decide_eq_true c6
        clear c6
        have c7b0 := eq_true (of_decide_eq_true (by first | (with_reducible assumption) | assumption) : 0 ≤ t101)
        by_cases c8 : t101 ≤ (wrap64 (t101 + (a1.size : Int)))
        · rw [if_pos c8] at H
          have c8b0 := eq_true c8
          have c8b1 : decide (t101 ≤ (wrap64 (t101 + (a1.size : Int)))) = true := decide_eq_true c8
          by_cases c9 : (wrap64 (t101 + (a1.size : Int))) ≤ (a0.size : Int)
          · rw [if_pos c9] at H
            have c9b0 := eq_true c9
            have c9b1 : decide ((wrap64 (t101 + (a1.size : Int))) ≤ (a0.size : Int)) = true := decide_eq_true c9
            obtain ⟨ji10, hji10⟩ : ∃ j_ : Int, (wrap64 (t101 + (a1.size : Int))) = j_ := ⟨_, rfl⟩
            replace H : (if 0 ≤ (ji10) then (some (a0.extract 0 (t101 : Int).toNat, a0.extract (t101 : Int).toNat ((ji10) : Int).toNat, a0.extract ((ji10) : Int).toNat a0.size)) else (none)) = some (r1, r2, r3) := by first | (rw [hji10] at H; exact H) | (simp only [hji10] at H ⊢; exact H)
            (try rw [hji10] at c8b0)
            (try rw [hji10] at c8b1)
            (try rw [hji10] at c8)
            (try rw [hji10] at c9b0)
            (try rw [hji10] at c9b1)
            (try rw [hji10] at c9)
            (try rw [hji10] at A3)
            have hji10w : (IntKind.i64.wrap (t101 + (a1.size : Int))) = ji10 := (i64_w _).trans hji10
            by_cases c11 : 0 ≤ (ji10)
            · rw [if_pos c11] at H
              have c11b0 := eq_true c11
              have c11b1 : decide (0 ≤ (ji10)) = true := decide_eq_true c11
              clear c11
              have c12b0 := eq_true (of_decide_eq_true (by first | (with_reducible assumption) | assumption) : (ji10) ≤ (a0.size : Int))
              simp only [Option.some.injEq, Prod.mk.injEq] at H
              obtain ⟨rfl, rfl, rfl⟩ := H
              go_enter Try.func13, Try.ntmps13
              go_wp2_with (first | ((with_reducible refine gate_callee (f := 15) rfl ?_); refine goesL_ (some 10) rfl rfl Try.func15 (by kernel_rfl) rfl #[.string a0, .string a1] rfl (by (try simp only [List.map_toArray, List.map_cons, List.map_nil]); first | done | rfl | (simp only [List.length_drop, List.length_take]; rfl)) ?_; (with_reducible refine (xstrings_zzIndex.calls k a0 a1 t101 _ A3.out).mono ?_); rintro e w' ⟨rfl, ⟨nd, rfl⟩⟩; refine ⟨_, rfl, ?_⟩))
              go_ret3
              exact ⟨by first | rfl | (simp; done) | (simp only [← hji10] <;> (first | rfl | simp)) | (simp [*]; done), by repeat (first | exact Drawn0.refl _ | apply Drawn0.step)⟩
            · rw [if_neg c11] at H
              exact absurd H (by simp)
          · rw [if_neg c9] at H
            exact absurd H (by simp)
        · rw [if_neg c8] at H
          exact absurd H (by simp)
      · rw [if_neg c6] at H
        exact absurd H (by simp)
    · rw [if_neg c5] at H
      exact absurd H (by simp)

/-! ### impl_Partition: function 8 -/
def impl_Partition.f (k : Nat) (a0 : ByteArray) (a1 : ByteArray) : Option (ByteArray × ByteArray × ByteArray) := (xstrings_Partition.f k a0 a1).bind fun bt102 => (some (bt102.1, bt102.2.1, bt102.2.2))
theorem impl_Partition.mono : ∀ a0 a1 k, LeO (impl_Partition.f k a0 a1) (impl_Partition.f (k + 1) a0 a1) := by
  intro a0 a1 k
  unfold impl_Partition.f
  repeat' first
      | (with_reducible exact xstrings_Partition.mono _ _ _)
      | (with_reducible exact LeO.refl _)
      | (with_reducible exact LeO.none _)
      | (with_reducible refine LeO.ite ?_ ?_)
      | (with_reducible refine LeO.bind ?_ (fun _ => ?_))
      | exact xstrings_Partition.mono _ _ _
      | exact LeO.none _
      | refine LeO.ite ?_ ?_
      | refine LeO.bind ?_ (fun _ => ?_)
set_option maxHeartbeats 8000000 in
set_option maxRecDepth 100000 in
theorem impl_Partition.calls (k : Nat) (a0 : ByteArray) (a1 : ByteArray) (r1 : ByteArray) (r2 : ByteArray) (r3 : ByteArray) (w : World) (h : impl_Partition.f k a0 a1 = some (r1, r2, r3)) :
    Calls Try.prog 8 #[.string a0, .string a1] w fun e w' => e = .returned (.tuple #[.string r1, .string r2, .string r3]) ∧ Drawn0 w w' := by
  have H : ((xstrings_Partition.f k a0 a1).bind fun bt102 => (some (bt102.1, bt102.2.1, bt102.2.2))) = some (r1, r2, r3) := h
  clear h
  replace H := Option.bind_eq_some_iff.mp H
  obtain ⟨⟨t102, t103, t104⟩, A30, H⟩ := H
  replace H : (some (t102, t103, t104)) = some (r1, r2, r3) := H
  have A3 := Aside0.mk A30
  clear A30
  simp only [Option.some.injEq, Prod.mk.injEq] at H
  obtain ⟨rfl, rfl, rfl⟩ := H
  go_enter Try.func8, Try.ntmps8
  go_wp2_with (first | ((with_reducible refine gate_callee (f := 13) rfl ?_); refine goesL_ (some 9) rfl rfl Try.func13 (by kernel_rfl) rfl #[.string a0, .string a1] rfl (by (try simp only [List.map_toArray, List.map_cons, List.map_nil]); first | done | rfl | (simp only [List.length_drop, List.length_take]; rfl)) ?_; (with_reducible refine (xstrings_Partition.calls k a0 a1 t102 t103 t104 _ A3.out).mono ?_); rintro e w' ⟨rfl, ⟨nd, rfl⟩⟩; refine ⟨_, rfl, ?_⟩))
  go_ret3
  exact ⟨by first | rfl | (simp; done) | (simp [*]; done), by repeat (first | exact Drawn0.refl _ | apply Drawn0.step)⟩

/-! ### laws_long: function 9 -/
def laws_long.f (a0 : ByteArray) : Option (Bool) := some (decide ((a0.size : Int) > 4096))
set_option maxHeartbeats 8000000 in
set_option maxRecDepth 100000 in
theorem laws_long.calls (a0 : ByteArray) (r : Bool) (w : World) (h : laws_long.f a0 = some r) :
    Calls Try.prog 9 #[.string a0] w fun e w' => e = .returned (.bool r) ∧ Drawn0 w w' := by
  have H : (some (decide ((a0.size : Int) > 4096))) = some r := h
  clear h
  obtain rfl := Option.some.inj H
  go_enter Try.func9, Try.ntmps9
  go_wp2
  go_ret
  exact ⟨by first | rfl | (simp; done) | (simp [*]; done), by repeat (first | exact Drawn0.refl _ | apply Drawn0.step)⟩

/-! ### laws_at: function 10 -/
def laws_at.l0 : Nat → ByteArray → ByteArray → Int → Option (Int)
  | 0, _, _, _ => none
  | k + 1, x0, x1, x7 => if (wrap64 (x7 + (x1.size : Int))) ≤ (x0.size : Int) then (if 0 ≤ x7 then (if x7 ≤ (wrap64 (x7 + (x1.size : Int))) then (if (x0.extract (x7 : Int).toNat ((wrap64 (x7 + (x1.size : Int))) : Int).toNat).toList = x1.toList then (some x7) else (laws_at.l0 k x0 x1 (wrap64 (x7 + 1)))) else (none)) else (none)) else (some (-1))
def laws_at.f (k : Nat) (a0 : ByteArray) (a1 : ByteArray) (a2 : Int) : Option (Int) := laws_at.l0 k a0 a1 a2
theorem laws_at.mono_l : ∀ k, (∀ y0 y1 y2, LeO (laws_at.l0 k y0 y1 y2) (laws_at.l0 (k + 1) y0 y1 y2))
  | 0 => fun _ _ _ r h => by simp [laws_at.l0] at h
  | k + 1 => by
    have ih0 := laws_at.mono_l k
    · intro y0 y1 y2
      unfold laws_at.l0
      repeat' first
      | (with_reducible exact ih0 _ _ _)
      | (with_reducible exact LeO.refl _)
      | (with_reducible exact LeO.none _)
      | (with_reducible refine LeO.ite ?_ ?_)
      | (with_reducible refine LeO.bind ?_ (fun _ => ?_))
      | exact ih0 _ _ _
      | exact LeO.none _
      | refine LeO.ite ?_ ?_
      | refine LeO.bind ?_ (fun _ => ?_)
theorem laws_at.mono : ∀ a0 a1 a2 k, LeO (laws_at.f k a0 a1 a2) (laws_at.f (k + 1) a0 a1 a2) := by
  intro a0 a1 a2 k
  have ih0 := laws_at.mono_l k
  unfold laws_at.f
  repeat' first
      | (with_reducible exact ih0 _ _ _)
      | (with_reducible exact LeO.refl _)
      | (with_reducible exact LeO.none _)
      | (with_reducible refine LeO.ite ?_ ?_)
      | (with_reducible refine LeO.bind ?_ (fun _ => ?_))
      | exact ih0 _ _ _
      | exact LeO.none _
      | refine LeO.ite ?_ ?_
      | refine LeO.bind ?_ (fun _ => ?_)
set_option maxHeartbeats 8000000 in
set_option maxRecDepth 100000 in
theorem laws_at.calls (k : Nat) (a0 : ByteArray) (a1 : ByteArray) (a2 : Int) (r : Int) (w : World) (h : laws_at.f k a0 a1 a2 = some r) :
    Calls Try.prog 10 #[.string a0, .string a1, .int .i64 a2] w fun e w' => e = .returned (.int .i64 r) ∧ Drawn0 w w' := by
  have H : (laws_at.l0 k a0 a1 a2) = some r := h
  clear h
  have H' := Aside0.mk H
  clear H
  go_enter Try.func10, Try.ntmps10
  go_wp2
  go_loopg [7] k (fun kq v7 w' => ∃ (x7_1 : Int), v7 = .int .i64 x7_1 ∧ Aside0 (laws_at.l0 kq a0 a1 x7_1 = some r) ∧ Aside0 (kq ≤ k) ∧ Drawn0 w w')
  case atStart => exact ⟨(a2), (by first | rfl | (simp; done) | (simp [*]; done)), H', ⟨Nat.le_refl _⟩, by repeat (first | exact Drawn0.refl _ | apply Drawn0.step)⟩
  case round =>
    clear H'
    try clear c1
    try clear p2
    obtain ⟨x7_1, rfl, HA, HK1, ⟨m1, rfl⟩⟩ := hrel
    cases gk with
    | zero => exact absurd HA.out (by simp [laws_at.l0])
    | succ k1 =>
      have H := HA.out
      clear HA
      simp only [laws_at.l0] at H
      by_cases c4 : (wrap64 (x7_1 + (a1.size : Int))) ≤ (a0.size : Int)
      · rw [if_pos c4] at H
        have c4b0 : decide ((wrap64 (x7_1 + (a1.size : Int))) ≤ (a0.size : Int)) = true := decide_eq_true c4
        clear c4
        by_cases c5 : 0 ≤ x7_1
        · rw [if_pos c5] at H
          have c5b0 := eq_true c5
          have c5b1 : decide (0 ≤ x7_1) = true := decide_eq_true c5
          clear c5
          by_cases c6 : x7_1 ≤ (wrap64 (x7_1 + (a1.size : Int)))
          · rw [if_pos c6] at H
            have c6b0 := eq_true c6
            have c6b1 : decide (x7_1 ≤ (wrap64 (x7_1 + (a1.size : Int)))) = true := decide_eq_true c6
            have c7b0 := eq_true (of_decide_eq_true (by first | (with_reducible assumption) | assumption) : (wrap64 (x7_1 + (a1.size : Int))) ≤ (a0.size : Int))
            by_cases c8 : (a0.extract (x7_1 : Int).toNat ((wrap64 (x7_1 + (a1.size : Int))) : Int).toNat).toList = a1.toList
            · rw [if_pos c8] at H
              have c8b0 : ((a0.extract (x7_1 : Int).toNat ((wrap64 (x7_1 + (a1.size : Int))) : Int).toNat).toList == a1.toList) = true := beq_iff_eq.mpr c8
              have c8b1 : ((a0.extract (x7_1 : Int).toNat ((wrap64 (x7_1 + (a1.size : Int))) : Int).toNat).toList != a1.toList) = false := bne_eq_false_iff_eq.mpr c8
              clear c8
              obtain rfl := Option.some.inj H
              go_wp2
              go_ret
              exact ⟨by first | rfl | (simp; done) | (simp [*]; done), by repeat (first | exact Drawn0.refl _ | apply Drawn0.step)⟩
            · rw [if_neg c8] at H
              have c8b0 : ((a0.extract (x7_1 : Int).toNat ((wrap64 (x7_1 + (a1.size : Int))) : Int).toNat).toList == a1.toList) = false := beq_eq_false_iff_ne.mpr c8
              have c8b1 : ((a0.extract (x7_1 : Int).toNat ((wrap64 (x7_1 + (a1.size : Int))) : Int).toNat).toList != a1.toList) = true := bne_iff_ne.mpr c8
              have H' := Aside0.mk H
              clear H
              go_wp2
              go_roundg k1
              case measure => have := HK1.out; omega
              case rel => exact ⟨(wrap64 (x7_1 + 1)), (by first | rfl | (simp; done) | (simp [*]; done)), H', ⟨by have := HK1.out; omega⟩, by repeat (first | exact Drawn0.refl _ | apply Drawn0.step)⟩
          · rw [if_neg c6] at H
            exact absurd H (by simp)
        · rw [if_neg c5] at H
          exact absurd H (by simp)
      · rw [if_neg c4] at H
        have c4b0 : decide ((wrap64 (x7_1 + (a1.size : Int))) ≤ (a0.size : Int)) = false := decide_eq_false c4
        clear c4
        obtain rfl := Option.some.inj H
        go_wp2
        go_ret
        exact ⟨by first | rfl | (simp; done) | (simp [*]; done), by repeat (first | exact Drawn0.refl _ | apply Drawn0.step)⟩

/-! ### laws_FnPartition: function 4 -/
mutual
def laws_FnPartition.j0 : Nat → ByteArray → ByteArray → Bool → Option (Bool)
  | 0, _, _, _ => none
  | k + 1, x0, x1, x19 => if x19 = true then (some true) else ((impl_Partition.f k (⟨#[104, 101, 108, 108, 111]⟩ : ByteArray) (⟨#[108]⟩ : ByteArray)).bind fun bt105 => (if bt105.1.toList = ([104, 101] : List UInt8) then (if bt105.2.1.toList = ([108] : List UInt8) then (laws_FnPartition.j1 k x0 x1 (bt105.2.2.toList != ([108, 111] : List UInt8))) else (laws_FnPartition.j1 k x0 x1 true)) else (laws_FnPartition.j1 k x0 x1 true)))
def laws_FnPartition.j1 : Nat → ByteArray → ByteArray → Bool → Option (Bool)
  | 0, _, _, _ => none
  | k + 1, x0, x1, x34 => if x34 = true then (some false) else ((laws_long.f x0).bind fun t108 => (if t108 = true then (laws_FnPartition.j2 k x0 x1 true) else ((laws_long.f x1).bind fun t109 => (if t109 = true then (laws_FnPartition.j2 k x0 x1 true) else (laws_FnPartition.j2 k x0 x1 (x1.toList == ([] : List UInt8)))))))
def laws_FnPartition.j2 : Nat → ByteArray → ByteArray → Bool → Option (Bool)
  | 0, _, _, _ => none
  | k + 1, x0, x1, x44 => if x44 = true then (some true) else ((impl_Partition.f k x0 x1).bind fun bt110 => ((laws_at.f k x0 x1 0).bind fun t113 => (if t113 < 0 then (if bt110.1.toList = x0.toList then (if bt110.2.1.toList = ([] : List UInt8) then (some (bt110.2.2.toList == ([] : List UInt8))) else (some false)) else (some false)) else (if 0 ≤ t113 then (if t113 ≤ (x0.size : Int) then (if bt110.1.toList = (x0.extract 0 (t113 : Int).toNat).toList then (if bt110.2.1.toList = x1.toList then (if 0 ≤ (wrap64 (t113 + (x1.size : Int))) then (if (wrap64 (t113 + (x1.size : Int))) ≤ (x0.size : Int) then (some (bt110.2.2.toList == (x0.extract ((wrap64 (t113 + (x1.size : Int))) : Int).toNat x0.size).toList)) else (none)) else (none)) else (some false)) else (some false)) else (none)) else (none)))))
end
def laws_FnPartition.f (k : Nat) (a0 : ByteArray) (a1 : ByteArray) : Option (Bool) := if (a0.size : Int) > 2147483647 then (laws_FnPartition.j0 k a0 a1 true) else (laws_FnPartition.j0 k a0 a1 (decide ((a1.size : Int) > 2147483647)))
theorem laws_FnPartition.mono_l : ∀ k, (∀ y0 y1 y2, LeO (laws_FnPartition.j0 k y0 y1 y2) (laws_FnPartition.j0 (k + 1) y0 y1 y2)) ∧ (∀ y0 y1 y2, LeO (laws_FnPartition.j1 k y0 y1 y2) (laws_FnPartition.j1 (k + 1) y0 y1 y2)) ∧ (∀ y0 y1 y2, LeO (laws_FnPartition.j2 k y0 y1 y2) (laws_FnPartition.j2 (k + 1) y0 y1 y2))
  | 0 => ⟨fun _ _ _ r h => by simp [laws_FnPartition.j0] at h, fun _ _ _ r h => by simp [laws_FnPartition.j1] at h, fun _ _ _ r h => by simp [laws_FnPartition.j2] at h⟩
  | k + 1 => by
    obtain ⟨ih0, ih1, ih2⟩ := laws_FnPartition.mono_l k
    refine ⟨?_, ?_, ?_⟩
    · intro y0 y1 y2
      unfold laws_FnPartition.j0
      repeat' first
      | (with_reducible exact ih0 _ _ _)
      | (with_reducible exact ih1 _ _ _)
      | (with_reducible exact ih2 _ _ _)
      | (with_reducible exact impl_Partition.mono _ _ _)
      | (with_reducible exact laws_at.mono _ _ _ _)
      | (with_reducible exact LeO.refl _)
      | (with_reducible exact LeO.none _)
      | (with_reducible refine LeO.ite ?_ ?_)
      | (with_reducible refine LeO.bind ?_ (fun _ => ?_))
      | exact ih0 _ _ _
      | exact ih1 _ _ _
      | exact ih2 _ _ _
      | exact impl_Partition.mono _ _ _
      | exact laws_at.mono _ _ _ _
      | exact LeO.none _
      | refine LeO.ite ?_ ?_
      | refine LeO.bind ?_ (fun _ => ?_)
    · intro y0 y1 y2
      unfold laws_FnPartition.j1
      repeat' first
      | (with_reducible exact ih0 _ _ _)
      | (with_reducible exact ih1 _ _ _)
      | (with_reducible exact ih2 _ _ _)
      | (with_reducible exact impl_Partition.mono _ _ _)
      | (with_reducible exact laws_at.mono _ _ _ _)
      | (with_reducible exact LeO.refl _)
      | (with_reducible exact LeO.none _)
      | (with_reducible refine LeO.ite ?_ ?_)
      | (with_reducible refine LeO.bind ?_ (fun _ => ?_))
      | exact ih0 _ _ _
      | exact ih1 _ _ _
      | exact ih2 _ _ _
      | exact impl_Partition.mono _ _ _
      | exact laws_at.mono _ _ _ _
      | exact LeO.none _
      | refine LeO.ite ?_ ?_
      | refine LeO.bind ?_ (fun _ => ?_)
    · intro y0 y1 y2
      unfold laws_FnPartition.j2
      repeat' first
      | (with_reducible exact ih0 _ _ _)
      | (with_reducible exact ih1 _ _ _)
      | (with_reducible exact ih2 _ _ _)
      | (with_reducible exact impl_Partition.mono _ _ _)
      | (with_reducible exact laws_at.mono _ _ _ _)
      | (with_reducible exact LeO.refl _)
      | (with_reducible exact LeO.none _)
      | (with_reducible refine LeO.ite ?_ ?_)
      | (with_reducible refine LeO.bind ?_ (fun _ => ?_))
      | exact ih0 _ _ _
      | exact ih1 _ _ _
      | exact ih2 _ _ _
      | exact impl_Partition.mono _ _ _
      | exact laws_at.mono _ _ _ _
      | exact LeO.none _
      | refine LeO.ite ?_ ?_
      | refine LeO.bind ?_ (fun _ => ?_)
theorem laws_FnPartition.mono : ∀ a0 a1 k, LeO (laws_FnPartition.f k a0 a1) (laws_FnPartition.f (k + 1) a0 a1) := by
  intro a0 a1 k
  obtain ⟨ih0, ih1, ih2⟩ := laws_FnPartition.mono_l k
  unfold laws_FnPartition.f
  repeat' first
      | (with_reducible exact ih0 _ _ _)
      | (with_reducible exact ih1 _ _ _)
      | (with_reducible exact ih2 _ _ _)
      | (with_reducible exact impl_Partition.mono _ _ _)
      | (with_reducible exact laws_at.mono _ _ _ _)
      | (with_reducible exact LeO.refl _)
      | (with_reducible exact LeO.none _)
      | (with_reducible refine LeO.ite ?_ ?_)
      | (with_reducible refine LeO.bind ?_ (fun _ => ?_))
      | exact ih0 _ _ _
      | exact ih1 _ _ _
      | exact ih2 _ _ _
      | exact impl_Partition.mono _ _ _
      | exact laws_at.mono _ _ _ _
      | exact LeO.none _
      | refine LeO.ite ?_ ?_
      | refine LeO.bind ?_ (fun _ => ?_)
set_option maxHeartbeats 8000000 in
set_option maxRecDepth 100000 in
theorem laws_FnPartition.calls (k : Nat) (a0 : ByteArray) (a1 : ByteArray) (r : Bool) (w : World) (h : laws_FnPartition.f k a0 a1 = some r) :
    Calls Try.prog 4 #[.string a0, .string a1] w fun e w' => e = .returned (.bool r) ∧ Drawn0 w w' := by
  have H : (if (a0.size : Int) > 2147483647 then (laws_FnPartition.j0 k a0 a1 true) else (laws_FnPartition.j0 k a0 a1 (decide ((a1.size : Int) > 2147483647)))) = some r := h
  clear h
  have HC3 := Aside0.mk H
  clear H
  go_enter Try.func4, Try.ntmps4
  go_upto_region 1 with (fail)
  go_cut [19] (fun v19 wc => ∃ (kq : Nat) (x19_2 : Bool), v19 = .bool x19_2 ∧ Aside0 (laws_FnPartition.j0 kq a0 a1 x19_2 = some r) ∧ Aside0 (kq ≤ k) ∧ Drawn0 w wc)
  case first =>
    have H := HC3.out
    clear HC3
    by_cases c4 : (a0.size : Int) > 2147483647
    · rw [if_pos c4] at H
      have c4b0 : decide (2147483647 < (a0.size : Int)) = true := decide_eq_true c4
      have c4b1 : decide (2147483647 < a0.size) = true := decide_eq_true (by omega)
      clear c4
      (first | rw [c4b0] | (simp only [i64_w, i32_w]; rw [c4b0]) | skip)
      have H' := Aside0.mk H
      clear H
      go_wp2
      go_meet
      case rel => exact ⟨_, (true), (by first | rfl | (simp; done) | (simp [*]; done)), H', ⟨by first | omega | exact Nat.le_refl _⟩, by repeat (first | exact Drawn0.refl _ | apply Drawn0.step)⟩
    · rw [if_neg c4] at H
      have c4b0 : decide (2147483647 < (a0.size : Int)) = false := decide_eq_false c4
      have c4b1 : decide (2147483647 < a0.size) = false := decide_eq_false (by omega)
      clear c4
      (first | rw [c4b0] | (simp only [i64_w, i32_w]; rw [c4b0]) | skip)
      have H' := Aside0.mk H
      clear H
      go_wp2
      go_meet
      case rel => exact ⟨_, (decide ((a1.size : Int) > 2147483647)), (by first | rfl | (simp; done) | (simp [*]; done)), H', ⟨by first | omega | exact Nat.le_refl _⟩, by repeat (first | exact Drawn0.refl _ | apply Drawn0.step)⟩
  case rest =>
    clear HC3
    try clear p2
    try clear c4
    try clear c4b0
    try clear c4b1
    obtain ⟨kq, x19_2, rfl, HA, HJ2, ⟨mc2, rfl⟩⟩ := hcut
    cases kq with
    | zero => exact absurd HA.out (by simp [laws_FnPartition.j0])
    | succ kj2 =>
      have H := HA.out
      clear HA
      simp only [laws_FnPartition.j0] at H
      by_cases c5 : x19_2 = true
      · subst c5
        have H1 : (some true) = some r := by rw [if_pos rfl] at H; exact H
        clear H
        have H := H1
        clear H1
        obtain rfl := Option.some.inj H
        go_wp2
        go_ret
        exact ⟨by first | rfl | (simp; done) | (simp [*]; done), by repeat (first | exact Drawn0.refl _ | apply Drawn0.step)⟩
      · replace c5 := Bool.eq_false_iff.mpr c5
        subst c5
        have H1 : ((impl_Partition.f kj2 (⟨#[104, 101, 108, 108, 111]⟩ : ByteArray) (⟨#[108]⟩ : ByteArray)).bind fun bt105 => (if bt105.1.toList = ([104, 101] : List UInt8) then (if bt105.2.1.toList = ([108] : List UInt8) then (laws_FnPartition.j1 kj2 a0 a1 (bt105.2.2.toList != ([108, 111] : List UInt8))) else (laws_FnPartition.j1 kj2 a0 a1 true)) else (laws_FnPartition.j1 kj2 a0 a1 true))) = some r := by rw [if_neg (show ¬ (false = true) by decide)] at H; exact H
        clear H
        have H := H1
        clear H1
        replace H := Option.bind_eq_some_iff.mp H
        obtain ⟨⟨t105, t106, t107⟩, A60, H⟩ := H
        replace H : (if t105.toList = ([104, 101] : List UInt8) then (if t106.toList = ([108] : List UInt8) then (laws_FnPartition.j1 kj2 a0 a1 (t107.toList != ([108, 111] : List UInt8))) else (laws_FnPartition.j1 kj2 a0 a1 true)) else (laws_FnPartition.j1 kj2 a0 a1 true)) = some r := H
        have A6 := Aside0.mk A60
        clear A60
        have HC7 := Aside0.mk H
        clear H
        go_upto_region 4 with (first | ((with_reducible refine gate_callee (f := 8) rfl ?_); refine goesL_ (some 21) rfl rfl Try.func8 (by kernel_rfl) rfl #[.string (⟨#[104, 101, 108, 108, 111]⟩ : ByteArray), .string (⟨#[108]⟩ : ByteArray)] rfl (by (try simp only [List.map_toArray, List.map_cons, List.map_nil]); first | done | rfl | (simp only [List.length_drop, List.length_take]; rfl)) ?_; (with_reducible refine (impl_Partition.calls kj2 (⟨#[104, 101, 108, 108, 111]⟩ : ByteArray) (⟨#[108]⟩ : ByteArray) t105 t106 t107 _ A6.out).mono ?_); rintro e w' ⟨rfl, ⟨nd, rfl⟩⟩; refine ⟨_, rfl, ?_⟩))
        (try simp only [Act.put, List.setIfInBounds_toArray, List.set_cons_zero, List.set_cons_succ])
        go_cut [34] (fun v34 wc => ∃ (kq : Nat) (x34_6 : Bool), v34 = .bool x34_6 ∧ Aside0 (laws_FnPartition.j1 kq a0 a1 x34_6 = some r) ∧ Aside0 (kq ≤ kj2) ∧ Drawn0 w wc)
        case first =>
          have H := HC7.out
          clear HC7
          by_cases c8 : t105.toList = ([104, 101] : List UInt8)
          · rw [if_pos c8] at H
            have c8b0 : (t105.toList == ([104, 101] : List UInt8)) = true := beq_iff_eq.mpr c8
            have c8b1 : (t105.toList != ([104, 101] : List UInt8)) = false := bne_eq_false_iff_eq.mpr c8
            clear c8
            (first | rw [c8b0] | (simp only [i64_w, i32_w]; rw [c8b0]) | skip)
            by_cases c9 : t106.toList = ([108] : List UInt8)
            · rw [if_pos c9] at H
              have c9b0 : (t106.toList == ([108] : List UInt8)) = true := beq_iff_eq.mpr c9
              have c9b1 : (t106.toList != ([108] : List UInt8)) = false := bne_eq_false_iff_eq.mpr c9
              clear c9
              have H' := Aside0.mk H
              clear H
              go_wp2
              go_meet
              case rel => exact ⟨_, ((t107.toList != ([108, 111] : List UInt8))), (by first | rfl | (simp; done) | (simp [*]; done)), H', ⟨by have := HJ2.out; first | omega | exact Nat.le_refl _⟩, by repeat (first | exact Drawn0.refl _ | apply Drawn0.step)⟩
            · rw [if_neg c9] at H
              have c9b0 : (t106.toList == ([108] : List UInt8)) = false := beq_eq_false_iff_ne.mpr c9
              have c9b1 : (t106.toList != ([108] : List UInt8)) = true := bne_iff_ne.mpr c9
              have H' := Aside0.mk H
              clear H
              go_wp2
              go_meet
              case rel => exact ⟨_, (true), (by first | rfl | (simp; done) | (simp [*]; done)), H', ⟨by have := HJ2.out; first | omega | exact Nat.le_refl _⟩, by repeat (first | exact Drawn0.refl _ | apply Drawn0.step)⟩
          · rw [if_neg c8] at H
            have c8b0 : (t105.toList == ([104, 101] : List UInt8)) = false := beq_eq_false_iff_ne.mpr c8
            have c8b1 : (t105.toList != ([104, 101] : List UInt8)) = true := bne_iff_ne.mpr c8
            (first | rw [c8b0] | (simp only [i64_w, i32_w]; rw [c8b0]) | skip)
            have H' := Aside0.mk H
            clear H
            go_wp2
            go_meet
            case rel => exact ⟨_, (true), (by first | rfl | (simp; done) | (simp [*]; done)), H', ⟨by have := HJ2.out; first | omega | exact Nat.le_refl _⟩, by repeat (first | exact Drawn0.refl _ | apply Drawn0.step)⟩
        case rest =>
          clear HC7
          try clear c2
          try clear p2
          try clear c4
          try clear c4b0
          try clear c4b1
          try clear c5
          try clear c8
          try clear c8b0
          try clear c8b1
          try clear c9
          try clear c9b0
          try clear c9b1
          try clear p2
          obtain ⟨kq, x34_6, rfl, HA, HJ6, ⟨mc6, rfl⟩⟩ := hcut
          cases kq with
          | zero => exact absurd HA.out (by simp [laws_FnPartition.j1])
          | succ kj6 =>
            have H := HA.out
            clear HA
            simp only [laws_FnPartition.j1] at H
            by_cases c10 : x34_6 = true
            · subst c10
              have H1 : (some false) = some r := by rw [if_pos rfl] at H; exact H
              clear H
              have H := H1
              clear H1
              obtain rfl := Option.some.inj H
              go_wp2
              go_ret
              exact ⟨by first | rfl | (simp; done) | (simp [*]; done), by repeat (first | exact Drawn0.refl _ | apply Drawn0.step)⟩
            · replace c10 := Bool.eq_false_iff.mpr c10
              subst c10
              have H1 : ((laws_long.f a0).bind fun t108 => (if t108 = true then (laws_FnPartition.j2 kj6 a0 a1 true) else ((laws_long.f a1).bind fun t109 => (if t109 = true then (laws_FnPartition.j2 kj6 a0 a1 true) else (laws_FnPartition.j2 kj6 a0 a1 (a1.toList == ([] : List UInt8))))))) = some r := by rw [if_neg (show ¬ (false = true) by decide)] at H; exact H
              clear H
              have H := H1
              clear H1
              have HC11 := Aside0.mk H
              clear H
              go_upto_region 6 with (fail)
              go_cut [44] (fun v44 wc => ∃ (kq : Nat) (x44_10 : Bool), v44 = .bool x44_10 ∧ Aside0 (laws_FnPartition.j2 kq a0 a1 x44_10 = some r) ∧ Aside0 (kq ≤ kj6) ∧ Drawn0 w wc)
              case first =>
                have H := HC11.out
                clear HC11
                replace H := Option.bind_eq_some_iff.mp H
                obtain ⟨t108, A120, H⟩ := H
                replace H : (if t108 = true then (laws_FnPartition.j2 kj6 a0 a1 true) else ((laws_long.f a1).bind fun t109 => (if t109 = true then (laws_FnPartition.j2 kj6 a0 a1 true) else (laws_FnPartition.j2 kj6 a0 a1 (a1.toList == ([] : List UInt8)))))) = some r := H
                have A12 := Aside0.mk A120
                clear A120
                by_cases c13 : t108 = true
                · subst c13
                  have H1 : (laws_FnPartition.j2 kj6 a0 a1 true) = some r := by rw [if_pos rfl] at H; exact H
                  clear H
                  have H := H1
                  clear H1
                  have H' := Aside0.mk H
                  clear H
                  go_wp2_with (first | ((with_reducible refine gate_callee (f := 9) rfl ?_); refine goesL_ (some 36) rfl rfl Try.func9 (by kernel_rfl) rfl #[.string a0] rfl (by (try simp only [List.map_toArray, List.map_cons, List.map_nil]); first | done | rfl | (simp only [List.length_drop, List.length_take]; rfl)) ?_; (with_reducible refine (laws_long.calls a0 true _ A12.out).mono ?_); rintro e w' ⟨rfl, ⟨nd, rfl⟩⟩; refine ⟨_, rfl, ?_⟩))
                  go_meet
                  case rel => exact ⟨_, (true), (by first | rfl | (simp; done) | (simp [*]; done)), H', ⟨by have := HJ2.out; have := HJ6.out; first | omega | exact Nat.le_refl _⟩, by repeat (first | exact Drawn0.refl _ | apply Drawn0.step)⟩
                · replace c13 := Bool.eq_false_iff.mpr c13
                  subst c13
                  have H1 : ((laws_long.f a1).bind fun t109 => (if t109 = true then (laws_FnPartition.j2 kj6 a0 a1 true) else (laws_FnPartition.j2 kj6 a0 a1 (a1.toList == ([] : List UInt8))))) = some r := by rw [if_neg (show ¬ (false = true) by decide)] at H; exact H
                  clear H
                  have H := H1
                  clear H1
                  replace H := Option.bind_eq_some_iff.mp H
                  obtain ⟨t109, A140, H⟩ := H
                  replace H : (if t109 = true then (laws_FnPartition.j2 kj6 a0 a1 true) else (laws_FnPartition.j2 kj6 a0 a1 (a1.toList == ([] : List UInt8)))) = some r := H
                  have A14 := Aside0.mk A140
                  clear A140
                  by_cases c15 : t109 = true
                  · subst c15
                    have H1 : (laws_FnPartition.j2 kj6 a0 a1 true) = some r := by rw [if_pos rfl] at H; exact H
                    clear H
                    have H := H1
                    clear H1
                    have H' := Aside0.mk H
                    clear H
                    go_wp2_with (first | ((with_reducible refine gate_callee (f := 9) rfl ?_); refine goesL_ (some 36) rfl rfl Try.func9 (by kernel_rfl) rfl #[.string a0] rfl (by (try simp only [List.map_toArray, List.map_cons, List.map_nil]); first | done | rfl | (simp only [List.length_drop, List.length_take]; rfl)) ?_; (with_reducible refine (laws_long.calls a0 false _ A12.out).mono ?_); rintro e w' ⟨rfl, ⟨nd, rfl⟩⟩; refine ⟨_, rfl, ?_⟩) | (go_at_call 9; (with_reducible refine (laws_long.calls a1 true _ A14.out).mono ?_); rintro e w' ⟨rfl, ⟨nd, rfl⟩⟩))
                    go_meet
                    case rel => exact ⟨_, (true), (by first | rfl | (simp; done) | (simp [*]; done)), H', ⟨by have := HJ2.out; have := HJ6.out; first | omega | exact Nat.le_refl _⟩, by repeat (first | exact Drawn0.refl _ | apply Drawn0.step)⟩
                  · replace c15 := Bool.eq_false_iff.mpr c15
                    subst c15
                    have H1 : (laws_FnPartition.j2 kj6 a0 a1 (a1.toList == ([] : List UInt8))) = some r := by rw [if_neg (show ¬ (false = true) by decide)] at H; exact H
                    clear H
                    have H := H1
                    clear H1
                    have H' := Aside0.mk H
                    clear H
                    go_wp2_with (first | ((with_reducible refine gate_callee (f := 9) rfl ?_); refine goesL_ (some 36) rfl rfl Try.func9 (by kernel_rfl) rfl #[.string a0] rfl (by (try simp only [List.map_toArray, List.map_cons, List.map_nil]); first | done | rfl | (simp only [List.length_drop, List.length_take]; rfl)) ?_; (with_reducible refine (laws_long.calls a0 false _ A12.out).mono ?_); rintro e w' ⟨rfl, ⟨nd, rfl⟩⟩; refine ⟨_, rfl, ?_⟩) | (go_at_call 9; (with_reducible refine (laws_long.calls a1 false _ A14.out).mono ?_); rintro e w' ⟨rfl, ⟨nd, rfl⟩⟩))
                    go_meet
                    case rel => exact ⟨_, ((a1.toList == ([] : List UInt8))), (by first | rfl | (simp; done) | (simp [*]; done)), H', ⟨by have := HJ2.out; have := HJ6.out; first | omega | exact Nat.le_refl _⟩, by repeat (first | exact Drawn0.refl _ | apply Drawn0.step)⟩
              case rest =>
                clear HC11
                try clear c1
                try clear c2
                try clear p2
                try clear c4
                try clear c4b0
                try clear c4b1
                try clear c5
                try clear c6
                try clear c8
                try clear c8b0
                try clear c8b1
                try clear c9
                try clear c9b0
                try clear c9b1
                try clear c10
                try clear c13
                try clear c15
                try clear p2
                obtain ⟨kq, x44_10, rfl, HA, HJ10, ⟨mc10, rfl⟩⟩ := hcut
                cases kq with
                | zero => exact absurd HA.out (by simp [laws_FnPartition.j2])
                | succ kj10 =>
                  have H := HA.out
                  clear HA
                  simp only [laws_FnPartition.j2] at H
                  by_cases c16 : x44_10 = true
                  · subst c16
                    have H1 : (some true) = some r := by rw [if_pos rfl] at H; exact H
                    clear H
                    have H := H1
                    clear H1
                    obtain rfl := Option.some.inj H
                    go_wp2
                    go_ret
                    exact ⟨by first | rfl | (simp; done) | (simp [*]; done), by repeat (first | exact Drawn0.refl _ | apply Drawn0.step)⟩
                  · replace c16 := Bool.eq_false_iff.mpr c16
                    subst c16
                    have H1 : ((impl_Partition.f kj10 a0 a1).bind fun bt110 => ((laws_at.f kj10 a0 a1 0).bind fun t113 => (if t113 < 0 then (if bt110.1.toList = a0.toList then (if bt110.2.1.toList = ([] : List UInt8) then (some (bt110.2.2.toList == ([] : List UInt8))) else (some false)) else (some false)) else (if 0 ≤ t113 then (if t113 ≤ (a0.size : Int) then (if bt110.1.toList = (a0.extract 0 (t113 : Int).toNat).toList then (if bt110.2.1.toList = a1.toList then (if 0 ≤ (wrap64 (t113 + (a1.size : Int))) then (if (wrap64 (t113 + (a1.size : Int))) ≤ (a0.size : Int) then (some (bt110.2.2.toList == (a0.extract ((wrap64 (t113 + (a1.size : Int))) : Int).toNat a0.size).toList)) else (none)) else (none)) else (some false)) else (some false)) else (none)) else (none))))) = some r := by rw [if_neg (show ¬ (false = true) by decide)] at H; exact H
                    clear H
                    have H := H1
                    clear H1
                    replace H := Option.bind_eq_some_iff.mp H
                    obtain ⟨⟨t110, t111, t112⟩, A170, H⟩ := H
                    replace H : ((laws_at.f kj10 a0 a1 0).bind fun t113 => (if t113 < 0 then (if t110.toList = a0.toList then (if t111.toList = ([] : List UInt8) then (some (t112.toList == ([] : List UInt8))) else (some false)) else (some false)) else (if 0 ≤ t113 then (if t113 ≤ (a0.size : Int) then (if t110.toList = (a0.extract 0 (t113 : Int).toNat).toList then (if t111.toList = a1.toList then (if 0 ≤ (wrap64 (t113 + (a1.size : Int))) then (if (wrap64 (t113 + (a1.size : Int))) ≤ (a0.size : Int) then (some (t112.toList == (a0.extract ((wrap64 (t113 + (a1.size : Int))) : Int).toNat a0.size).toList)) else (none)) else (none)) else (some false)) else (some false)) else (none)) else (none)))) = some r := H
                    have A17 := Aside0.mk A170
                    clear A170
                    replace H := Option.bind_eq_some_iff.mp H
                    obtain ⟨t113, A180, H⟩ := H
                    replace H : (if t113 < 0 then (if t110.toList = a0.toList then (if t111.toList = ([] : List UInt8) then (some (t112.toList == ([] : List UInt8))) else (some false)) else (some false)) else (if 0 ≤ t113 then (if t113 ≤ (a0.size : Int) then (if t110.toList = (a0.extract 0 (t113 : Int).toNat).toList then (if t111.toList = a1.toList then (if 0 ≤ (wrap64 (t113 + (a1.size : Int))) then (if (wrap64 (t113 + (a1.size : Int))) ≤ (a0.size : Int) then (some (t112.toList == (a0.extract ((wrap64 (t113 + (a1.size : Int))) : Int).toNat a0.size).toList)) else (none)) else (none)) else (some false)) else (some false)) else (none)) else (none))) = some r := H
                    have A18 := Aside0.mk A180
                    clear A180
                    by_cases c19 : t113 < 0
                    · rw [if_pos c19] at H
                      have c19b0 : decide (t113 < 0) = true := decide_eq_true c19
                      clear c19
                      by_cases c20 : t110.toList = a0.toList
                      · rw [if_pos c20] at H
                        have c20b0 : (t110.toList == a0.toList) = true := beq_iff_eq.mpr c20
                        have c20b1 : (t110.toList != a0.toList) = false := bne_eq_false_iff_eq.mpr c20
                        clear c20
                        by_cases c21 : t111.toList = ([] : List UInt8)
                        · rw [if_pos c21] at H
                          have c21b0 : (t111.toList == ([] : List UInt8)) = true := beq_iff_eq.mpr c21
                          have c21b1 : (t111.toList != ([] : List UInt8)) = false := bne_eq_false_iff_eq.mpr c21
                          clear c21
                          obtain rfl := Option.some.inj H
                          go_wp2_with (first | ((with_reducible refine gate_callee (f := 8) rfl ?_); refine goesL_ (some 48) rfl rfl Try.func8 (by kernel_rfl) rfl #[.string a0, .string a1] rfl (by (try simp only [List.map_toArray, List.map_cons, List.map_nil]); first | done | rfl | (simp only [List.length_drop, List.length_take]; rfl)) ?_; (with_reducible refine (impl_Partition.calls kj10 a0 a1 t110 t111 t112 _ A17.out).mono ?_); rintro e w' ⟨rfl, ⟨nd, rfl⟩⟩; refine ⟨_, rfl, ?_⟩) | ((with_reducible refine gate_callee (f := 10) rfl ?_); refine goesL_ (some 54) rfl rfl Try.func10 (by kernel_rfl) rfl #[.string a0, .string a1, .int .i64 0] rfl (by (try simp only [List.map_toArray, List.map_cons, List.map_nil]); first | done | rfl | (simp only [List.length_drop, List.length_take]; rfl)) ?_; (with_reducible refine (laws_at.calls kj10 a0 a1 0 t113 _ A18.out).mono ?_); rintro e w' ⟨rfl, ⟨nd, rfl⟩⟩; refine ⟨_, rfl, ?_⟩))
                          go_ret
                          exact ⟨by first | rfl | (simp; done) | (simp [*]; done), by repeat (first | exact Drawn0.refl _ | apply Drawn0.step)⟩
                        · rw [if_neg c21] at H
                          have c21b0 : (t111.toList == ([] : List UInt8)) = false := beq_eq_false_iff_ne.mpr c21
                          have c21b1 : (t111.toList != ([] : List UInt8)) = true := bne_iff_ne.mpr c21
                          obtain rfl := Option.some.inj H
                          go_wp2_with (first | ((with_reducible refine gate_callee (f := 8) rfl ?_); refine goesL_ (some 48) rfl rfl Try.func8 (by kernel_rfl) rfl #[.string a0, .string a1] rfl (by (try simp only [List.map_toArray, List.map_cons, List.map_nil]); first | done | rfl | (simp only [List.length_drop, List.length_take]; rfl)) ?_; (with_reducible refine (impl_Partition.calls kj10 a0 a1 t110 t111 t112 _ A17.out).mono ?_); rintro e w' ⟨rfl, ⟨nd, rfl⟩⟩; refine ⟨_, rfl, ?_⟩) | ((with_reducible refine gate_callee (f := 10) rfl ?_); refine goesL_ (some 54) rfl rfl Try.func10 (by kernel_rfl) rfl #[.string a0, .string a1, .int .i64 0] rfl (by (try simp only [List.map_toArray, List.map_cons, List.map_nil]); first | done | rfl | (simp only [List.length_drop, List.length_take]; rfl)) ?_; (with_reducible refine (laws_at.calls kj10 a0 a1 0 t113 _ A18.out).mono ?_); rintro e w' ⟨rfl, ⟨nd, rfl⟩⟩; refine ⟨_, rfl, ?_⟩))
                          go_ret
                          exact ⟨by first | rfl | (simp; done) | (simp [*]; done), by repeat (first | exact Drawn0.refl _ | apply Drawn0.step)⟩
                      · rw [if_neg c20] at H
                        have c20b0 : (t110.toList == a0.toList) = false := beq_eq_false_iff_ne.mpr c20
                        have c20b1 : (t110.toList != a0.toList) = true := bne_iff_ne.mpr c20
                        obtain rfl := Option.some.inj H
                        go_wp2_with (first | ((with_reducible refine gate_callee (f := 8) rfl ?_); refine goesL_ (some 48) rfl rfl Try.func8 (by kernel_rfl) rfl #[.string a0, .string a1] rfl (by (try simp only [List.map_toArray, List.map_cons, List.map_nil]); first | done | rfl | (simp only [List.length_drop, List.length_take]; rfl)) ?_; (with_reducible refine (impl_Partition.calls kj10 a0 a1 t110 t111 t112 _ A17.out).mono ?_); rintro e w' ⟨rfl, ⟨nd, rfl⟩⟩; refine ⟨_, rfl, ?_⟩) | ((with_reducible refine gate_callee (f := 10) rfl ?_); refine goesL_ (some 54) rfl rfl Try.func10 (by kernel_rfl) rfl #[.string a0, .string a1, .int .i64 0] rfl (by (try simp only [List.map_toArray, List.map_cons, List.map_nil]); first | done | rfl | (simp only [List.length_drop, List.length_take]; rfl)) ?_; (with_reducible refine (laws_at.calls kj10 a0 a1 0 t113 _ A18.out).mono ?_); rintro e w' ⟨rfl, ⟨nd, rfl⟩⟩; refine ⟨_, rfl, ?_⟩))
                        go_ret
                        exact ⟨by first | rfl | (simp; done) | (simp [*]; done), by repeat (first | exact Drawn0.refl _ | apply Drawn0.step)⟩
                    · rw [if_neg c19] at H
                      have c19b0 : decide (t113 < 0) = false := decide_eq_false c19
                      clear c19
                      by_cases c22 : 0 ≤ t113
                      · rw [if_pos c22] at H
                        have c22b0 := eq_true c22
                        have c22b1 : decide (0 ≤ t113) = true := decide_eq_true c22
                        clear c22
                        by_cases c23 : t113 ≤ (a0.size : Int)
                        · rw [if_pos c23] at H
                          have c23b0 := eq_true c23
                          have c23b1 : decide (t113 ≤ (a0.size : Int)) = true := decide_eq_true c23
                          clear c23
                          by_cases c24 : t110.toList = (a0.extract 0 (t113 : Int).toNat).toList
                          · rw [if_pos c24] at H
                            have c24b0 : (t110.toList == (a0.extract 0 (t113 : Int).toNat).toList) = true := beq_iff_eq.mpr c24
                            have c24b1 : (t110.toList != (a0.extract 0 (t113 : Int).toNat).toList) = false := bne_eq_false_iff_eq.mpr c24
                            clear c24
                            by_cases c25 : t111.toList = a1.toList
                            · rw [if_pos c25] at H
                              have c25b0 : (t111.toList == a1.toList) = true := beq_iff_eq.mpr c25
                              have c25b1 : (t111.toList != a1.toList) = false := bne_eq_false_iff_eq.mpr c25
                              clear c25
                              obtain ⟨ji26, hji26⟩ : ∃ j_ : Int, (wrap64 (t113 + (a1.size : Int))) = j_ := ⟨_, rfl⟩
                              replace H : (if 0 ≤ (ji26) then (if (ji26) ≤ (a0.size : Int) then (some (t112.toList == (a0.extract ((ji26) : Int).toNat a0.size).toList)) else (none)) else (none)) = some r := by first | (rw [hji26] at H; exact H) | (simp only [hji26] at H ⊢; exact H)
                              (try rw [hji26] at A17)
                              (try rw [hji26] at A18)
                              have hji26w : (IntKind.i64.wrap (t113 + (a1.size : Int))) = ji26 := (i64_w _).trans hji26
                              by_cases c27 : 0 ≤ (ji26)
                              · rw [if_pos c27] at H
                                have c27b0 := eq_true c27
                                have c27b1 : decide (0 ≤ (ji26)) = true := decide_eq_true c27
                                clear c27
                                by_cases c28 : (ji26) ≤ (a0.size : Int)
                                · rw [if_pos c28] at H
                                  have c28b0 := eq_true c28
                                  have c28b1 : decide ((ji26) ≤ (a0.size : Int)) = true := decide_eq_true c28
                                  clear c28
                                  obtain rfl := Option.some.inj H
                                  go_wp2_with (first | ((with_reducible refine gate_callee (f := 8) rfl ?_); refine goesL_ (some 48) rfl rfl Try.func8 (by kernel_rfl) rfl #[.string a0, .string a1] rfl (by (try simp only [List.map_toArray, List.map_cons, List.map_nil]); first | done | rfl | (simp only [List.length_drop, List.length_take]; rfl)) ?_; (with_reducible refine (impl_Partition.calls kj10 a0 a1 t110 t111 t112 _ A17.out).mono ?_); rintro e w' ⟨rfl, ⟨nd, rfl⟩⟩; refine ⟨_, rfl, ?_⟩) | ((with_reducible refine gate_callee (f := 10) rfl ?_); refine goesL_ (some 54) rfl rfl Try.func10 (by kernel_rfl) rfl #[.string a0, .string a1, .int .i64 0] rfl (by (try simp only [List.map_toArray, List.map_cons, List.map_nil]); first | done | rfl | (simp only [List.length_drop, List.length_take]; rfl)) ?_; (with_reducible refine (laws_at.calls kj10 a0 a1 0 t113 _ A18.out).mono ?_); rintro e w' ⟨rfl, ⟨nd, rfl⟩⟩; refine ⟨_, rfl, ?_⟩))
                                  go_ret
                                  exact ⟨by first | rfl | (simp; done) | (simp only [← hji26] <;> (first | rfl | simp)) | (simp [*]; done), by repeat (first | exact Drawn0.refl _ | apply Drawn0.step)⟩
                                · rw [if_neg c28] at H
                                  exact absurd H (by simp)
                              · rw [if_neg c27] at H
                                exact absurd H (by simp)
                            · rw [if_neg c25] at H
                              have c25b0 : (t111.toList == a1.toList) = false := beq_eq_false_iff_ne.mpr c25
                              have c25b1 : (t111.toList != a1.toList) = true := bne_iff_ne.mpr c25
                              obtain rfl := Option.some.inj H
                              go_wp2_with (first | ((with_reducible refine gate_callee (f := 8) rfl ?_); refine goesL_ (some 48) rfl rfl Try.func8 (by kernel_rfl) rfl #[.string a0, .string a1] rfl (by (try simp only [List.map_toArray, List.map_cons, List.map_nil]); first | done | rfl | (simp only [List.length_drop, List.length_take]; rfl)) ?_; (with_reducible refine (impl_Partition.calls kj10 a0 a1 t110 t111 t112 _ A17.out).mono ?_); rintro e w' ⟨rfl, ⟨nd, rfl⟩⟩; refine ⟨_, rfl, ?_⟩) | ((with_reducible refine gate_callee (f := 10) rfl ?_); refine goesL_ (some 54) rfl rfl Try.func10 (by kernel_rfl) rfl #[.string a0, .string a1, .int .i64 0] rfl (by (try simp only [List.map_toArray, List.map_cons, List.map_nil]); first | done | rfl | (simp only [List.length_drop, List.length_take]; rfl)) ?_; (with_reducible refine (laws_at.calls kj10 a0 a1 0 t113 _ A18.out).mono ?_); rintro e w' ⟨rfl, ⟨nd, rfl⟩⟩; refine ⟨_, rfl, ?_⟩))
                              go_ret
                              exact ⟨by first | rfl | (simp; done) | (simp [*]; done), by repeat (first | exact Drawn0.refl _ | apply Drawn0.step)⟩
                          · rw [if_neg c24] at H
                            have c24b0 : (t110.toList == (a0.extract 0 (t113 : Int).toNat).toList) = false := beq_eq_false_iff_ne.mpr c24
                            have c24b1 : (t110.toList != (a0.extract 0 (t113 : Int).toNat).toList) = true := bne_iff_ne.mpr c24
                            obtain rfl := Option.some.inj H
                            go_wp2_with (first | ((with_reducible refine gate_callee (f := 8) rfl ?_); refine goesL_ (some 48) rfl rfl Try.func8 (by kernel_rfl) rfl #[.string a0, .string a1] rfl (by (try simp only [List.map_toArray, List.map_cons, List.map_nil]); first | done | rfl | (simp only [List.length_drop, List.length_take]; rfl)) ?_; (with_reducible refine (impl_Partition.calls kj10 a0 a1 t110 t111 t112 _ A17.out).mono ?_); rintro e w' ⟨rfl, ⟨nd, rfl⟩⟩; refine ⟨_, rfl, ?_⟩) | ((with_reducible refine gate_callee (f := 10) rfl ?_); refine goesL_ (some 54) rfl rfl Try.func10 (by kernel_rfl) rfl #[.string a0, .string a1, .int .i64 0] rfl (by (try simp only [List.map_toArray, List.map_cons, List.map_nil]); first | done | rfl | (simp only [List.length_drop, List.length_take]; rfl)) ?_; (with_reducible refine (laws_at.calls kj10 a0 a1 0 t113 _ A18.out).mono ?_); rintro e w' ⟨rfl, ⟨nd, rfl⟩⟩; refine ⟨_, rfl, ?_⟩))
                            go_ret
                            exact ⟨by first | rfl | (simp; done) | (simp [*]; done), by repeat (first | exact Drawn0.refl _ | apply Drawn0.step)⟩
                        · rw [if_neg c23] at H
                          exact absurd H (by simp)
                      · rw [if_neg c22] at H
                        exact absurd H (by simp)

/-- THE ONE PURE STATEMENT of laws_FnPartition: yours. -/
def laws_FnPartition.Pure : Prop := ∀ (a0 : ByteArray) (a1 : ByteArray), a0.size ≤ 140737488351232 → a1.size ≤ 140737488351232 → ∃ k, laws_FnPartition.f k a0 a1 = some true
theorem laws_FnPartition.walk (P : laws_FnPartition.Pure) (a0 : ByteArray) (a1 : ByteArray) (w : World) (w0 : a0.size ≤ 140737488351232) (w1 : a1.size ≤ 140737488351232) :
    Calls Try.prog 4 #[.string a0, .string a1] w fun e w' => e = .returned (.bool true) ∧ Below w.heap.size w w' := by
  obtain ⟨k, h⟩ := P a0 a1 w0 w1
  refine (laws_FnPartition.calls k a0 a1 true w h).mono ?_
  rintro e w' ⟨rfl, hd⟩
  exact ⟨rfl, hd.below⟩

end Go.Proofs.Ytobcoplfniojkaa.PFnPartition
