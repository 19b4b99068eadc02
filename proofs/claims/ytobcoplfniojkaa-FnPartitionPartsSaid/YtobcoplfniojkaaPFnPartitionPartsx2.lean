-- PRINTED BY print.sh 35421559b90ae4d0a3588c463048766b98c2df88dd9212a6774a882060cdf62d: not written by this session
import Derived.Test.YtobcoplfniojkaaPFnPartitionPartsx0
import Derived.Test.YtobcoplfniojkaaPFnPartitionPartsx1
namespace Go.Proofs.Ytobcoplfniojkaa.PFnPartitionParts
open Go.RowKit Go.Proofs.YtobcoplfniojkaaW.PrintWords Go.Proofs.YtobcoplfniojkaaW.PrintLast Go.Proofs.YtobcoplfniojkaaW.PrintMore
attribute [local go_sem] max2_int min2_int max_two min_two max_three min_three max_four min_four   -- for this text's walks alone
set_option linter.unusedVariables false
set_option linter.unusedSimpArgs false

/-! ### laws_FnPartitionParts: function 5 -/
mutual
def laws_FnPartitionParts.j0 : Nat → ByteArray → ByteArray → Bool → Option (Bool)
  | 0, _, _, _ => none
  | k + 1, x0, x1, x22 => if x22 = true then (some true) else ((impl_Partition.f k (⟨#[104, 101, 108, 108, 111]⟩ : ByteArray) (⟨#[101]⟩ : ByteArray)).bind fun bt109 => (if bt109.1.toList = ([104] : List UInt8) then (if bt109.2.1.toList = ([101] : List UInt8) then (laws_FnPartitionParts.j1 k x0 x1 (bt109.2.2.toList != ([108, 108, 111] : List UInt8))) else (laws_FnPartitionParts.j1 k x0 x1 true)) else (laws_FnPartitionParts.j1 k x0 x1 true)))
def laws_FnPartitionParts.j1 : Nat → ByteArray → ByteArray → Bool → Option (Bool)
  | 0, _, _, _ => none
  | k + 1, x0, x1, x37 => if x37 = true then (some false) else ((laws_long.f x0).bind fun t112 => (if t112 = true then (laws_FnPartitionParts.j2 k x0 x1 true) else ((laws_long.f x1).bind fun t113 => (if t113 = true then (laws_FnPartitionParts.j2 k x0 x1 true) else (laws_FnPartitionParts.j2 k x0 x1 (x1.toList == ([] : List UInt8)))))))
def laws_FnPartitionParts.j2 : Nat → ByteArray → ByteArray → Bool → Option (Bool)
  | 0, _, _, _ => none
  | k + 1, x0, x1, x47 => if x47 = true then (some true) else ((impl_Partition.f k x0 x1).bind fun bt114 => ((impl_LastPartition.f k x0 x1).bind fun bt117 => (if bt114.1.size + bt114.2.1.size ≤ 9223372036854775807 then (if (bt114.1 ++ bt114.2.1).size + bt114.2.2.size ≤ 9223372036854775807 then (if ((bt114.1 ++ bt114.2.1) ++ bt114.2.2).toList = x0.toList then (if bt117.1.size + bt117.2.1.size ≤ 9223372036854775807 then (if (bt117.1 ++ bt117.2.1).size + bt117.2.2.size ≤ 9223372036854775807 then (if ((bt117.1 ++ bt117.2.1) ++ bt117.2.2).toList = x0.toList then (laws_FnPartitionParts.j3 k x0 x1 bt114.1 bt114.2.2 bt117.1 bt117.2.2 (bt114.2.1.toList != bt117.2.1.toList)) else (laws_FnPartitionParts.j3 k x0 x1 bt114.1 bt114.2.2 bt117.1 bt117.2.2 true)) else (none)) else (none)) else (laws_FnPartitionParts.j3 k x0 x1 bt114.1 bt114.2.2 bt117.1 bt117.2.2 true)) else (none)) else (none))))
def laws_FnPartitionParts.j3 : Nat → ByteArray → ByteArray → ByteArray → ByteArray → ByteArray → ByteArray → Bool → Option (Bool)
  | 0, _, _, _, _, _, _, _ => none
  | k + 1, x0, x1, x8, x10, x11, x13, x82 => if x82 = true then (some false) else ((laws_at.f k x0 x1 0).bind fun t120 => (if t120 < 0 then (some true) else ((laws_at.f k x0 x1 (wrap64 (t120 + 1))).bind fun t121 => (if t121 ≥ 0 then (some true) else (if x8.toList = x11.toList then (some (x10.toList == x13.toList)) else (some false))))))
end
def laws_FnPartitionParts.f (k : Nat) (a0 : ByteArray) (a1 : ByteArray) : Option (Bool) := if (a0.size : Int) > 2147483647 then (laws_FnPartitionParts.j0 k a0 a1 true) else (laws_FnPartitionParts.j0 k a0 a1 (decide ((a1.size : Int) > 2147483647)))
theorem laws_FnPartitionParts.mono_l : ∀ k, (∀ y0 y1 y2, LeO (laws_FnPartitionParts.j0 k y0 y1 y2) (laws_FnPartitionParts.j0 (k + 1) y0 y1 y2)) ∧ (∀ y0 y1 y2, LeO (laws_FnPartitionParts.j1 k y0 y1 y2) (laws_FnPartitionParts.j1 (k + 1) y0 y1 y2)) ∧ (∀ y0 y1 y2, LeO (laws_FnPartitionParts.j2 k y0 y1 y2) (laws_FnPartitionParts.j2 (k + 1) y0 y1 y2)) ∧ (∀ y0 y1 y2 y3 y4 y5 y6, LeO (laws_FnPartitionParts.j3 k y0 y1 y2 y3 y4 y5 y6) (laws_FnPartitionParts.j3 (k + 1) y0 y1 y2 y3 y4 y5 y6))
  | 0 => ⟨fun _ _ _ r h => by simp [laws_FnPartitionParts.j0] at h, fun _ _ _ r h => by simp [laws_FnPartitionParts.j1] at h, fun _ _ _ r h => by simp [laws_FnPartitionParts.j2] at h, fun _ _ _ _ _ _ _ r h => by simp [laws_FnPartitionParts.j3] at h⟩
  | k + 1 => by
    obtain ⟨ih0, ih1, ih2, ih3⟩ := laws_FnPartitionParts.mono_l k
    refine ⟨?_, ?_, ?_, ?_⟩
    · intro y0 y1 y2
      unfold laws_FnPartitionParts.j0
      repeat' first
      | (with_reducible exact ih0 _ _ _)
      | (with_reducible exact ih1 _ _ _)
      | (with_reducible exact ih2 _ _ _)
      | (with_reducible exact ih3 _ _ _ _ _ _ _)
      | (with_reducible exact impl_LastPartition.mono _ _ _)
      | (with_reducible exact impl_Partition.mono _ _ _)
      | (with_reducible exact laws_at.mono _ _ _ _)
      | (with_reducible exact LeO.refl _)
      | (with_reducible exact LeO.none _)
      | (with_reducible refine LeO.ite ?_ ?_)
      | (with_reducible refine LeO.bind ?_ (fun _ => ?_))
      | exact ih0 _ _ _
      | exact ih1 _ _ _
      | exact ih2 _ _ _
      | exact ih3 _ _ _ _ _ _ _
      | exact impl_LastPartition.mono _ _ _
      | exact impl_Partition.mono _ _ _
      | exact laws_at.mono _ _ _ _
      | exact LeO.none _
      | refine LeO.ite ?_ ?_
      | refine LeO.bind ?_ (fun _ => ?_)
    · intro y0 y1 y2
      unfold laws_FnPartitionParts.j1
      repeat' first
      | (with_reducible exact ih0 _ _ _)
      | (with_reducible exact ih1 _ _ _)
      | (with_reducible exact ih2 _ _ _)
      | (with_reducible exact ih3 _ _ _ _ _ _ _)
      | (with_reducible exact impl_LastPartition.mono _ _ _)
      | (with_reducible exact impl_Partition.mono _ _ _)
      | (with_reducible exact laws_at.mono _ _ _ _)
      | (with_reducible exact LeO.refl _)
      | (with_reducible exact LeO.none _)
      | (with_reducible refine LeO.ite ?_ ?_)
      | (with_reducible refine LeO.bind ?_ (fun _ => ?_))
      | exact ih0 _ _ _
      | exact ih1 _ _ _
      | exact ih2 _ _ _
      | exact ih3 _ _ _ _ _ _ _
      | exact impl_LastPartition.mono _ _ _
      | exact impl_Partition.mono _ _ _
      | exact laws_at.mono _ _ _ _
      | exact LeO.none _
      | refine LeO.ite ?_ ?_
      | refine LeO.bind ?_ (fun _ => ?_)
    · intro y0 y1 y2
      unfold laws_FnPartitionParts.j2
      repeat' first
      | (with_reducible exact ih0 _ _ _)
      | (with_reducible exact ih1 _ _ _)
      | (with_reducible exact ih2 _ _ _)
      | (with_reducible exact ih3 _ _ _ _ _ _ _)
      | (with_reducible exact impl_LastPartition.mono _ _ _)
      | (with_reducible exact impl_Partition.mono _ _ _)
      | (with_reducible exact laws_at.mono _ _ _ _)
      | (with_reducible exact LeO.refl _)
      | (with_reducible exact LeO.none _)
      | (with_reducible refine LeO.ite ?_ ?_)
      | (with_reducible refine LeO.bind ?_ (fun _ => ?_))
      | exact ih0 _ _ _
      | exact ih1 _ _ _
      | exact ih2 _ _ _
      | exact ih3 _ _ _ _ _ _ _
      | exact impl_LastPartition.mono _ _ _
      | exact impl_Partition.mono _ _ _
      | exact laws_at.mono _ _ _ _
      | exact LeO.none _
      | refine LeO.ite ?_ ?_
      | refine LeO.bind ?_ (fun _ => ?_)
    · intro y0 y1 y2 y3 y4 y5 y6
      unfold laws_FnPartitionParts.j3
      repeat' first
      | (with_reducible exact ih0 _ _ _)
      | (with_reducible exact ih1 _ _ _)
      | (with_reducible exact ih2 _ _ _)
      | (with_reducible exact ih3 _ _ _ _ _ _ _)
      | (with_reducible exact impl_LastPartition.mono _ _ _)
      | (with_reducible exact impl_Partition.mono _ _ _)
      | (with_reducible exact laws_at.mono _ _ _ _)
      | (with_reducible exact LeO.refl _)
      | (with_reducible exact LeO.none _)
      | (with_reducible refine LeO.ite ?_ ?_)
      | (with_reducible refine LeO.bind ?_ (fun _ => ?_))
      | exact ih0 _ _ _
      | exact ih1 _ _ _
      | exact ih2 _ _ _
      | exact ih3 _ _ _ _ _ _ _
      | exact impl_LastPartition.mono _ _ _
      | exact impl_Partition.mono _ _ _
      | exact laws_at.mono _ _ _ _
      | exact LeO.none _
      | refine LeO.ite ?_ ?_
      | refine LeO.bind ?_ (fun _ => ?_)
theorem laws_FnPartitionParts.mono : ∀ a0 a1 k, LeO (laws_FnPartitionParts.f k a0 a1) (laws_FnPartitionParts.f (k + 1) a0 a1) := by
  intro a0 a1 k
  obtain ⟨ih0, ih1, ih2, ih3⟩ := laws_FnPartitionParts.mono_l k
  unfold laws_FnPartitionParts.f
  repeat' first
      | (with_reducible exact ih0 _ _ _)
      | (with_reducible exact ih1 _ _ _)
      | (with_reducible exact ih2 _ _ _)
      | (with_reducible exact ih3 _ _ _ _ _ _ _)
      | (with_reducible exact impl_LastPartition.mono _ _ _)
      | (with_reducible exact impl_Partition.mono _ _ _)
      | (with_reducible exact laws_at.mono _ _ _ _)
      | (with_reducible exact LeO.refl _)
      | (with_reducible exact LeO.none _)
      | (with_reducible refine LeO.ite ?_ ?_)
      | (with_reducible refine LeO.bind ?_ (fun _ => ?_))
      | exact ih0 _ _ _
      | exact ih1 _ _ _
      | exact ih2 _ _ _
      | exact ih3 _ _ _ _ _ _ _
      | exact impl_LastPartition.mono _ _ _
      | exact impl_Partition.mono _ _ _
      | exact laws_at.mono _ _ _ _
      | exact LeO.none _
      | refine LeO.ite ?_ ?_
      | refine LeO.bind ?_ (fun _ => ?_)
set_option maxHeartbeats 8000000 in
set_option maxRecDepth 100000 in
theorem laws_FnPartitionParts.calls (k : Nat) (a0 : ByteArray) (a1 : ByteArray) (r : Bool) (w : World) (h : laws_FnPartitionParts.f k a0 a1 = some r) :
    Calls Try.prog 5 #[.string a0, .string a1] w fun e w' => e = .returned (.bool r) ∧ Drawn0 w w' := by
  have H : (if (a0.size : Int) > 2147483647 then (laws_FnPartitionParts.j0 k a0 a1 true) else (laws_FnPartitionParts.j0 k a0 a1 (decide ((a1.size : Int) > 2147483647)))) = some r := h
  clear h
  have HC3 := Aside0.mk H
  clear H
  go_enter Try.func5, Try.ntmps5
  go_upto_region 1 with (fail)
  go_cut [22] (fun v22 wc => ∃ (kq : Nat) (x22_2 : Bool), v22 = .bool x22_2 ∧ Aside0 (laws_FnPartitionParts.j0 kq a0 a1 x22_2 = some r) ∧ Aside0 (kq ≤ k) ∧ Drawn0 w wc)
  case first =>
    have H := HC3.out
    clear HC3
    by_cases c4 : (a0.size : Int) > 2147483647
    · rw [if_pos c4] at H
      have c4b0 : decide (2147483647 < (a0.size : Int)) = true := decide_eq_true c4
      have c4b1 : decide (2147483647 < a0.size) = true := decide_eq_true (by omega)
      clear c4
      (first | rw [c4b0] | (simp only [i64_w, i32_w]; rw [c4b0]) | skip)
      have H' := Aside0.mk H
      clear H
      go_wp2
      go_meet
      case rel => exact ⟨_, (true), (by first | rfl | (simp; done) | (simp [*]; done)), H', ⟨by first | omega | exact Nat.le_refl _⟩, by repeat (first | exact Drawn0.refl _ | apply Drawn0.step)⟩
    · rw [if_neg c4] at H
      have c4b0 : decide (2147483647 < (a0.size : Int)) = false := decide_eq_false c4
      have c4b1 : decide (2147483647 < a0.size) = false := decide_eq_false (by omega)
      clear c4
      (first | rw [c4b0] | (simp only [i64_w, i32_w]; rw [c4b0]) | skip)
      have H' := Aside0.mk H
      clear H
      go_wp2
      go_meet
      case rel => exact ⟨_, (decide ((a1.size : Int) > 2147483647)), (by first | rfl | (simp; done) | (simp [*]; done)), H', ⟨by first | omega | exact Nat.le_refl _⟩, by repeat (first | exact Drawn0.refl _ | apply Drawn0.step)⟩
  case rest =>
    clear HC3
    try clear p2
    try clear c4
    try clear c4b0
    try clear c4b1
    obtain ⟨kq, x22_2, rfl, HA, HJ2, ⟨mc2, rfl⟩⟩ := hcut
    cases kq with
    | zero => exact absurd HA.out (by simp [laws_FnPartitionParts.j0])
    | succ kj2 =>
      have H := HA.out
      clear HA
      simp only [laws_FnPartitionParts.j0] at H
      by_cases c5 : x22_2 = true
      · subst c5
        have H1 : (some true) = some r := by rw [if_pos rfl] at H; exact H
        clear H
        have H := H1
        clear H1
        obtain rfl := Option.some.inj H
        go_wp2
        go_ret
        exact ⟨by first | rfl | (simp; done) | (simp [*]; done), by repeat (first | exact Drawn0.refl _ | apply Drawn0.step)⟩
      · replace c5 := Bool.eq_false_iff.mpr c5
        subst c5
        have H1 : ((impl_Partition.f kj2 (⟨#[104, 101, 108, 108, 111]⟩ : ByteArray) (⟨#[101]⟩ : ByteArray)).bind fun bt109 => (if bt109.1.toList = ([104] : List UInt8) then (if bt109.2.1.toList = ([101] : List UInt8) then (laws_FnPartitionParts.j1 kj2 a0 a1 (bt109.2.2.toList != ([108, 108, 111] : List UInt8))) else (laws_FnPartitionParts.j1 kj2 a0 a1 true)) else (laws_FnPartitionParts.j1 kj2 a0 a1 true))) = some r := by rw [if_neg (show ¬ (false = true) by decide)] at H; exact H
        clear H
        have H := H1
        clear H1
        replace H := Option.bind_eq_some_iff.mp H
        obtain ⟨⟨t109, t110, t111⟩, A60, H⟩ := H
        replace H : (if t109.toList = ([104] : List UInt8) then (if t110.toList = ([101] : List UInt8) then (laws_FnPartitionParts.j1 kj2 a0 a1 (t111.toList != ([108, 108, 111] : List UInt8))) else (laws_FnPartitionParts.j1 kj2 a0 a1 true)) else (laws_FnPartitionParts.j1 kj2 a0 a1 true)) = some r := H
        have A6 := Aside0.mk A60
        clear A60
        have HC7 := Aside0.mk H
        clear H
        go_upto_region 4 with (first | ((with_reducible refine gate_callee (f := 8) rfl ?_); refine goesL_ (some 24) rfl rfl Try.func8 (by kernel_rfl) rfl #[.string (⟨#[104, 101, 108, 108, 111]⟩ : ByteArray), .string (⟨#[101]⟩ : ByteArray)] rfl (by (try simp only [List.map_toArray, List.map_cons, List.map_nil]); first | done | rfl | (simp only [List.length_drop, List.length_take]; rfl)) ?_; (with_reducible refine (impl_Partition.calls kj2 (⟨#[104, 101, 108, 108, 111]⟩ : ByteArray) (⟨#[101]⟩ : ByteArray) t109 t110 t111 _ A6.out).mono ?_); rintro e w' ⟨rfl, ⟨nd, rfl⟩⟩; refine ⟨_, rfl, ?_⟩))
        (try simp only [Act.put, List.setIfInBounds_toArray, List.set_cons_zero, List.set_cons_succ])
        go_cut [37] (fun v37 wc => ∃ (kq : Nat) (x37_6 : Bool), v37 = .bool x37_6 ∧ Aside0 (laws_FnPartitionParts.j1 kq a0 a1 x37_6 = some r) ∧ Aside0 (kq ≤ kj2) ∧ Drawn0 w wc)
        case first =>
          have H := HC7.out
          clear HC7
          by_cases c8 : t109.toList = ([104] : List UInt8)
          · rw [if_pos c8] at H
            have c8b0 : (t109.toList == ([104] : List UInt8)) = true := beq_iff_eq.mpr c8
            have c8b1 : (t109.toList != ([104] : List UInt8)) = false := bne_eq_false_iff_eq.mpr c8
            clear c8
            (first | rw [c8b0] | (simp only [i64_w, i32_w]; rw [c8b0]) | skip)
            by_cases c9 : t110.toList = ([101] : List UInt8)
            · rw [if_pos c9] at H
              have c9b0 : (t110.toList == ([101] : List UInt8)) = true := beq_iff_eq.mpr c9
              have c9b1 : (t110.toList != ([101] : List UInt8)) = false := bne_eq_false_iff_eq.mpr c9
              clear c9
              have H' := Aside0.mk H
              clear H
              go_wp2
              go_meet
              case rel => exact ⟨_, ((t111.toList != ([108, 108, 111] : List UInt8))), (by first | rfl | (simp; done) | (simp [*]; done)), H', ⟨by have := HJ2.out; first | omega | exact Nat.le_refl _⟩, by repeat (first | exact Drawn0.refl _ | apply Drawn0.step)⟩
            · rw [if_neg c9] at H
              have c9b0 : (t110.toList == ([101] : List UInt8)) = false := beq_eq_false_iff_ne.mpr c9
              have c9b1 : (t110.toList != ([101] : List UInt8)) = true := bne_iff_ne.mpr c9
              have H' := Aside0.mk H
              clear H
              go_wp2
              go_meet
              case rel => exact ⟨_, (true), (by first | rfl | (simp; done) | (simp [*]; done)), H', ⟨by have := HJ2.out; first | omega | exact Nat.le_refl _⟩, by repeat (first | exact Drawn0.refl _ | apply Drawn0.step)⟩
          · rw [if_neg c8] at H
            have c8b0 : (t109.toList == ([104] : List UInt8)) = false := beq_eq_false_iff_ne.mpr c8
            have c8b1 : (t109.toList != ([104] : List UInt8)) = true := bne_iff_ne.mpr c8
            (first | rw [c8b0] | (simp only [i64_w, i32_w]; rw [c8b0]) | skip)
            have H' := Aside0.mk H
            clear H
            go_wp2
            go_meet
            case rel => exact ⟨_, (true), (by first | rfl | (simp; done) | (simp [*]; done)), H', ⟨by have := HJ2.out; first | omega | exact Nat.le_refl _⟩, by repeat (first | exact Drawn0.refl _ | apply Drawn0.step)⟩
        case rest =>
          clear HC7
          try clear c2
          try clear p2
          try clear c4
          try clear c4b0
          try clear c4b1
          try clear c5
          try clear c8
          try clear c8b0
          try clear c8b1
          try clear c9
          try clear c9b0
          try clear c9b1
          try clear p2
          obtain ⟨kq, x37_6, rfl, HA, HJ6, ⟨mc6, rfl⟩⟩ := hcut
          cases kq with
          | zero => exact absurd HA.out (by simp [laws_FnPartitionParts.j1])
          | succ kj6 =>
            have H := HA.out
            clear HA
            simp only [laws_FnPartitionParts.j1] at H
            by_cases c10 : x37_6 = true
            · subst c10
              have H1 : (some false) = some r := by rw [if_pos rfl] at H; exact H
              clear H
              have H := H1
              clear H1
              obtain rfl := Option.some.inj H
              go_wp2
              go_ret
              exact ⟨by first | rfl | (simp; done) | (simp [*]; done), by repeat (first | exact Drawn0.refl _ | apply Drawn0.step)⟩
            · replace c10 := Bool.eq_false_iff.mpr c10
              subst c10
              have H1 : ((laws_long.f a0).bind fun t112 => (if t112 = true then (laws_FnPartitionParts.j2 kj6 a0 a1 true) else ((laws_long.f a1).bind fun t113 => (if t113 = true then (laws_FnPartitionParts.j2 kj6 a0 a1 true) else (laws_FnPartitionParts.j2 kj6 a0 a1 (a1.toList == ([] : List UInt8))))))) = some r := by rw [if_neg (show ¬ (false = true) by decide)] at H; exact H
              clear H
              have H := H1
              clear H1
              have HC11 := Aside0.mk H
              clear H
              go_upto_region 6 with (fail)
              go_cut [47] (fun v47 wc => ∃ (kq : Nat) (x47_10 : Bool), v47 = .bool x47_10 ∧ Aside0 (laws_FnPartitionParts.j2 kq a0 a1 x47_10 = some r) ∧ Aside0 (kq ≤ kj6) ∧ Drawn0 w wc)
              case first =>
                have H := HC11.out
                clear HC11
                replace H := Option.bind_eq_some_iff.mp H
                obtain ⟨t112, A120, H⟩ := H
                replace H : (if t112 = true then (laws_FnPartitionParts.j2 kj6 a0 a1 true) else ((laws_long.f a1).bind fun t113 => (if t113 = true then (laws_FnPartitionParts.j2 kj6 a0 a1 true) else (laws_FnPartitionParts.j2 kj6 a0 a1 (a1.toList == ([] : List UInt8)))))) = some r := H
                have A12 := Aside0.mk A120
                clear A120
                by_cases c13 : t112 = true
                · subst c13
                  have H1 : (laws_FnPartitionParts.j2 kj6 a0 a1 true) = some r := by rw [if_pos rfl] at H; exact H
                  clear H
                  have H := H1
                  clear H1
                  have H' := Aside0.mk H
                  clear H
                  go_wp2_with (first | ((with_reducible refine gate_callee (f := 9) rfl ?_); refine goesL_ (some 39) rfl rfl Try.func9 (by kernel_rfl) rfl #[.string a0] rfl (by (try simp only [List.map_toArray, List.map_cons, List.map_nil]); first | done | rfl | (simp only [List.length_drop, List.length_take]; rfl)) ?_; (with_reducible refine (laws_long.calls a0 true _ A12.out).mono ?_); rintro e w' ⟨rfl, ⟨nd, rfl⟩⟩; refine ⟨_, rfl, ?_⟩))
                  go_meet
                  case rel => exact ⟨_, (true), (by first | rfl | (simp; done) | (simp [*]; done)), H', ⟨by have := HJ2.out; have := HJ6.out; first | omega | exact Nat.le_refl _⟩, by repeat (first | exact Drawn0.refl _ | apply Drawn0.step)⟩
                · replace c13 := Bool.eq_false_iff.mpr c13
                  subst c13
                  have H1 : ((laws_long.f a1).bind fun t113 => (if t113 = true then (laws_FnPartitionParts.j2 kj6 a0 a1 true) else (laws_FnPartitionParts.j2 kj6 a0 a1 (a1.toList == ([] : List UInt8))))) = some r := by rw [if_neg (show ¬ (false = true) by decide)] at H; exact H
                  clear H
                  have H := H1
                  clear H1
                  replace H := Option.bind_eq_some_iff.mp H
                  obtain ⟨t113, A140, H⟩ := H
                  replace H : (if t113 = true then (laws_FnPartitionParts.j2 kj6 a0 a1 true) else (laws_FnPartitionParts.j2 kj6 a0 a1 (a1.toList == ([] : List UInt8)))) = some r := H
                  have A14 := Aside0.mk A140
                  clear A140
                  by_cases c15 : t113 = true
                  · subst c15
                    have H1 : (laws_FnPartitionParts.j2 kj6 a0 a1 true) = some r := by rw [if_pos rfl] at H; exact H
                    clear H
                    have H := H1
                    clear H1
                    have H' := Aside0.mk H
                    clear H
                    go_wp2_with (first | ((with_reducible refine gate_callee (f := 9) rfl ?_); refine goesL_ (some 39) rfl rfl Try.func9 (by kernel_rfl) rfl #[.string a0] rfl (by (try simp only [List.map_toArray, List.map_cons, List.map_nil]); first | done | rfl | (simp only [List.length_drop, List.length_take]; rfl)) ?_; (with_reducible refine (laws_long.calls a0 false _ A12.out).mono ?_); rintro e w' ⟨rfl, ⟨nd, rfl⟩⟩; refine ⟨_, rfl, ?_⟩) | (go_at_call 9; (with_reducible refine (laws_long.calls a1 true _ A14.out).mono ?_); rintro e w' ⟨rfl, ⟨nd, rfl⟩⟩))
                    go_meet
                    case rel => exact ⟨_, (true), (by first | rfl | (simp; done) | (simp [*]; done)), H', ⟨by have := HJ2.out; have := HJ6.out; first | omega | exact Nat.le_refl _⟩, by repeat (first | exact Drawn0.refl _ | apply Drawn0.step)⟩
                  · replace c15 := Bool.eq_false_iff.mpr c15
                    subst c15
                    have H1 : (laws_FnPartitionParts.j2 kj6 a0 a1 (a1.toList == ([] : List UInt8))) = some r := by rw [if_neg (show ¬ (false = true) by decide)] at H; exact H
                    clear H
                    have H := H1
                    clear H1
                    have H' := Aside0.mk H
                    clear H
                    go_wp2_with (first | ((with_reducible refine gate_callee (f := 9) rfl ?_); refine goesL_ (some 39) rfl rfl Try.func9 (by kernel_rfl) rfl #[.string a0] rfl (by (try simp only [List.map_toArray, List.map_cons, List.map_nil]); first | done | rfl | (simp only [List.length_drop, List.length_take]; rfl)) ?_; (with_reducible refine (laws_long.calls a0 false _ A12.out).mono ?_); rintro e w' ⟨rfl, ⟨nd, rfl⟩⟩; refine ⟨_, rfl, ?_⟩) | (go_at_call 9; (with_reducible refine (laws_long.calls a1 false _ A14.out).mono ?_); rintro e w' ⟨rfl, ⟨nd, rfl⟩⟩))
                    go_meet
                    case rel => exact ⟨_, ((a1.toList == ([] : List UInt8))), (by first | rfl | (simp; done) | (simp [*]; done)), H', ⟨by have := HJ2.out; have := HJ6.out; first | omega | exact Nat.le_refl _⟩, by repeat (first | exact Drawn0.refl _ | apply Drawn0.step)⟩
              case rest =>
                clear HC11
                try clear c1
                try clear c2
                try clear p2
                try clear c4
                try clear c4b0
                try clear c4b1
                try clear c5
                try clear c6
                try clear c8
                try clear c8b0
                try clear c8b1
                try clear c9
                try clear c9b0
                try clear c9b1
                try clear c10
                try clear c13
                try clear c15
                try clear p2
                obtain ⟨kq, x47_10, rfl, HA, HJ10, ⟨mc10, rfl⟩⟩ := hcut
                cases kq with
                | zero => exact absurd HA.out (by simp [laws_FnPartitionParts.j2])
                | succ kj10 =>
                  have H := HA.out
                  clear HA
                  simp only [laws_FnPartitionParts.j2] at H
                  by_cases c16 : x47_10 = true
                  · subst c16
                    have H1 : (some true) = some r := by rw [if_pos rfl] at H; exact H
                    clear H
                    have H := H1
                    clear H1
                    obtain rfl := Option.some.inj H
                    go_wp2
                    go_ret
                    exact ⟨by first | rfl | (simp; done) | (simp [*]; done), by repeat (first | exact Drawn0.refl _ | apply Drawn0.step)⟩
                  · replace c16 := Bool.eq_false_iff.mpr c16
                    subst c16
                    have H1 : ((impl_Partition.f kj10 a0 a1).bind fun bt114 => ((impl_LastPartition.f kj10 a0 a1).bind fun bt117 => (if bt114.1.size + bt114.2.1.size ≤ 9223372036854775807 then (if (bt114.1 ++ bt114.2.1).size + bt114.2.2.size ≤ 9223372036854775807 then (if ((bt114.1 ++ bt114.2.1) ++ bt114.2.2).toList = a0.toList then (if bt117.1.size + bt117.2.1.size ≤ 9223372036854775807 then (if (bt117.1 ++ bt117.2.1).size + bt117.2.2.size ≤ 9223372036854775807 then (if ((bt117.1 ++ bt117.2.1) ++ bt117.2.2).toList = a0.toList then (laws_FnPartitionParts.j3 kj10 a0 a1 bt114.1 bt114.2.2 bt117.1 bt117.2.2 (bt114.2.1.toList != bt117.2.1.toList)) else (laws_FnPartitionParts.j3 kj10 a0 a1 bt114.1 bt114.2.2 bt117.1 bt117.2.2 true)) else (none)) else (none)) else (laws_FnPartitionParts.j3 kj10 a0 a1 bt114.1 bt114.2.2 bt117.1 bt117.2.2 true)) else (none)) else (none)))) = some r := by rw [if_neg (show ¬ (false = true) by decide)] at H; exact H
                    clear H
                    have H := H1
                    clear H1
                    replace H := Option.bind_eq_some_iff.mp H
                    obtain ⟨⟨t114, t115, t116⟩, A170, H⟩ := H
                    replace H : ((impl_LastPartition.f kj10 a0 a1).bind fun bt117 => (if t114.size + t115.size ≤ 9223372036854775807 then (if (t114 ++ t115).size + t116.size ≤ 9223372036854775807 then (if ((t114 ++ t115) ++ t116).toList = a0.toList then (if bt117.1.size + bt117.2.1.size ≤ 9223372036854775807 then (if (bt117.1 ++ bt117.2.1).size + bt117.2.2.size ≤ 9223372036854775807 then (if ((bt117.1 ++ bt117.2.1) ++ bt117.2.2).toList = a0.toList then (laws_FnPartitionParts.j3 kj10 a0 a1 t114 t116 bt117.1 bt117.2.2 (t115.toList != bt117.2.1.toList)) else (laws_FnPartitionParts.j3 kj10 a0 a1 t114 t116 bt117.1 bt117.2.2 true)) else (none)) else (none)) else (laws_FnPartitionParts.j3 kj10 a0 a1 t114 t116 bt117.1 bt117.2.2 true)) else (none)) else (none))) = some r := H
                    have A17 := Aside0.mk A170
                    clear A170
                    replace H := Option.bind_eq_some_iff.mp H
                    obtain ⟨⟨t117, t118, t119⟩, A180, H⟩ := H
                    replace H : (if t114.size + t115.size ≤ 9223372036854775807 then (if (t114 ++ t115).size + t116.size ≤ 9223372036854775807 then (if ((t114 ++ t115) ++ t116).toList = a0.toList then (if t117.size + t118.size ≤ 9223372036854775807 then (if (t117 ++ t118).size + t119.size ≤ 9223372036854775807 then (if ((t117 ++ t118) ++ t119).toList = a0.toList then (laws_FnPartitionParts.j3 kj10 a0 a1 t114 t116 t117 t119 (t115.toList != t118.toList)) else (laws_FnPartitionParts.j3 kj10 a0 a1 t114 t116 t117 t119 true)) else (none)) else (none)) else (laws_FnPartitionParts.j3 kj10 a0 a1 t114 t116 t117 t119 true)) else (none)) else (none)) = some r := H
                    have A18 := Aside0.mk A180
                    clear A180
                    have HC19 := Aside0.mk H
                    clear H
                    go_upto_region 10 with (first | ((with_reducible refine gate_callee (f := 8) rfl ?_); refine goesL_ (some 51) rfl rfl Try.func8 (by kernel_rfl) rfl #[.string a0, .string a1] rfl (by (try simp only [List.map_toArray, List.map_cons, List.map_nil]); first | done | rfl | (simp only [List.length_drop, List.length_take]; rfl)) ?_; (with_reducible refine (impl_Partition.calls kj10 a0 a1 t114 t115 t116 _ A17.out).mono ?_); rintro e w' ⟨rfl, ⟨nd, rfl⟩⟩; refine ⟨_, rfl, ?_⟩) | ((with_reducible refine gate_callee (f := 11) rfl ?_); refine goesL_ (some 58) rfl rfl Try.func11 (by kernel_rfl) rfl #[.string a0, .string a1] rfl (by (try simp only [List.map_toArray, List.map_cons, List.map_nil]); first | done | rfl | (simp only [List.length_drop, List.length_take]; rfl)) ?_; (with_reducible refine (impl_LastPartition.calls kj10 a0 a1 t117 t118 t119 _ A18.out).mono ?_); rintro e w' ⟨rfl, ⟨nd, rfl⟩⟩; refine ⟨_, rfl, ?_⟩))
                    (try simp only [Act.put, List.setIfInBounds_toArray, List.set_cons_zero, List.set_cons_succ])
                    go_cut [82] (fun v82 wc => ∃ (kq : Nat) (x82_18 : Bool), v82 = .bool x82_18 ∧ Aside0 (laws_FnPartitionParts.j3 kq a0 a1 t114 t116 t117 t119 x82_18 = some r) ∧ Aside0 (kq ≤ kj10) ∧ Drawn0 w wc)
                    case first =>
                      have H := HC19.out
                      clear HC19
                      by_cases c20 : t114.size + t115.size ≤ 9223372036854775807
                      · rw [if_pos c20] at H
                        have c20b0 := eq_true c20
                        have c20b1 : decide (t114.size + t115.size ≤ 9223372036854775807) = true := decide_eq_true c20
                        try have c20b2 : (9223372036854775807 < t114.size + t115.size) = False := eq_false (Nat.not_lt.2 c20)
                        by_cases c21 : (t114 ++ t115).size + t116.size ≤ 9223372036854775807
                        · rw [if_pos c21] at H
                          have c21b0 := eq_true c21
                          have c21b1 : decide ((t114 ++ t115).size + t116.size ≤ 9223372036854775807) = true := decide_eq_true c21
                          try have c21b2 : (9223372036854775807 < (t114 ++ t115).size + t116.size) = False := eq_false (Nat.not_lt.2 c21)
                          by_cases c22 : ((t114 ++ t115) ++ t116).toList = a0.toList
                          · rw [if_pos c22] at H
                            have c22b0 : (((t114 ++ t115) ++ t116).toList == a0.toList) = true := beq_iff_eq.mpr c22
                            have c22b1 : (((t114 ++ t115) ++ t116).toList != a0.toList) = false := bne_eq_false_iff_eq.mpr c22
                            clear c22
                            (first | rw [c22b0] | (simp only [i64_w, i32_w]; rw [c22b0]) | skip)
                            by_cases c23 : t117.size + t118.size ≤ 9223372036854775807
                            · rw [if_pos c23] at H
                              have c23b0 := eq_true c23
                              have c23b1 : decide (t117.size + t118.size ≤ 9223372036854775807) = true := decide_eq_true c23
                              try have c23b2 : (9223372036854775807 < t117.size + t118.size) = False := eq_false (Nat.not_lt.2 c23)
                              by_cases c24 : (t117 ++ t118).size + t119.size ≤ 9223372036854775807
                              · rw [if_pos c24] at H
                                have c24b0 := eq_true c24
                                have c24b1 : decide ((t117 ++ t118).size + t119.size ≤ 9223372036854775807) = true := decide_eq_true c24
                                try have c24b2 : (9223372036854775807 < (t117 ++ t118).size + t119.size) = False := eq_false (Nat.not_lt.2 c24)
                                by_cases c25 : ((t117 ++ t118) ++ t119).toList = a0.toList
                                · rw [if_pos c25] at H
                                  have c25b0 : (((t117 ++ t118) ++ t119).toList == a0.toList) = true := beq_iff_eq.mpr c25
                                  have c25b1 : (((t117 ++ t118) ++ t119).toList != a0.toList) = false := bne_eq_false_iff_eq.mpr c25
                                  clear c25
                                  have H' := Aside0.mk H
                                  clear H
                                  go_wp2
                                  go_meet
                                  case rel => exact ⟨_, ((t115.toList != t118.toList)), (by first | rfl | (simp; done) | (simp [*]; done)), H', ⟨by have := HJ2.out; have := HJ6.out; have := HJ10.out; first | omega | exact Nat.le_refl _⟩, by repeat (first | exact Drawn0.refl _ | apply Drawn0.step)⟩
                                · rw [if_neg c25] at H
                                  have c25b0 : (((t117 ++ t118) ++ t119).toList == a0.toList) = false := beq_eq_false_iff_ne.mpr c25
                                  have c25b1 : (((t117 ++ t118) ++ t119).toList != a0.toList) = true := bne_iff_ne.mpr c25
                                  have H' := Aside0.mk H
                                  clear H
                                  go_wp2
                                  go_meet
                                  case rel => exact ⟨_, (true), (by first | rfl | (simp; done) | (simp [*]; done)), H', ⟨by have := HJ2.out; have := HJ6.out; have := HJ10.out; first | omega | exact Nat.le_refl _⟩, by repeat (first | exact Drawn0.refl _ | apply Drawn0.step)⟩
                              · rw [if_neg c24] at H
                                exact absurd H (by simp)
                            · rw [if_neg c23] at H
                              exact absurd H (by simp)
                          · rw [if_neg c22] at H
                            have c22b0 : (((t114 ++ t115) ++ t116).toList == a0.toList) = false := beq_eq_false_iff_ne.mpr c22
                            have c22b1 : (((t114 ++ t115) ++ t116).toList != a0.toList) = true := bne_iff_ne.mpr c22
                            (first | rw [c22b0] | (simp only [i64_w, i32_w]; rw [c22b0]) | skip)
                            have H' := Aside0.mk H
                            clear H
                            go_wp2
                            go_meet
                            case rel => exact ⟨_, (true), (by first | rfl | (simp; done) | (simp [*]; done)), H', ⟨by have := HJ2.out; have := HJ6.out; have := HJ10.out; first | omega | exact Nat.le_refl _⟩, by repeat (first | exact Drawn0.refl _ | apply Drawn0.step)⟩
                        · rw [if_neg c21] at H
                          exact absurd H (by simp)
                      · rw [if_neg c20] at H
                        exact absurd H (by simp)
                    case rest =>
                      clear HC19
                      try clear c1
                      try clear c2
                      try clear p2
                      try clear c4
                      try clear c4b0
                      try clear c4b1
                      try clear c5
                      try clear c6
                      try clear c8
                      try clear c8b0
                      try clear c8b1
                      try clear c9
                      try clear c9b0
                      try clear c9b1
                      try clear c10
                      try clear c11
                      try clear c13
                      try clear c15
                      try clear c16
                      try clear c20
                      try clear c20b0
                      try clear c20b1
                      try clear c20b2
                      try clear c21
                      try clear c21b0
                      try clear c21b1
                      try clear c21b2
                      try clear c22
                      try clear c22b0
                      try clear c22b1
                      try clear c23
                      try clear c23b0
                      try clear c23b1
                      try clear c23b2
                      try clear c24
                      try clear c24b0
                      try clear c24b1
                      try clear c24b2
                      try clear c25
                      try clear c25b0
                      try clear c25b1
                      try clear p2
                      obtain ⟨kq, x82_18, rfl, HA, HJ18, ⟨mc18, rfl⟩⟩ := hcut
                      cases kq with
                      | zero => exact absurd HA.out (by simp [laws_FnPartitionParts.j3])
                      | succ kj18 =>
                        have H := HA.out
                        clear HA
                        simp only [laws_FnPartitionParts.j3] at H
                        by_cases c26 : x82_18 = true
                        · subst c26
                          have H1 : (some false) = some r := by rw [if_pos rfl] at H; exact H
                          clear H
                          have H := H1
                          clear H1
                          obtain rfl := Option.some.inj H
                          go_wp2
                          go_ret
                          exact ⟨by first | rfl | (simp; done) | (simp [*]; done), by repeat (first | exact Drawn0.refl _ | apply Drawn0.step)⟩
                        · replace c26 := Bool.eq_false_iff.mpr c26
                          subst c26
                          have H1 : ((laws_at.f kj18 a0 a1 0).bind fun t120 => (if t120 < 0 then (some true) else ((laws_at.f kj18 a0 a1 (wrap64 (t120 + 1))).bind fun t121 => (if t121 ≥ 0 then (some true) else (if t114.toList = t117.toList then (some (t116.toList == t119.toList)) else (some false)))))) = some r := by rw [if_neg (show ¬ (false = true) by decide)] at H; exact H
                          clear H
                          have H := H1
                          clear H1
                          replace H := Option.bind_eq_some_iff.mp H
                          obtain ⟨t120, A270, H⟩ := H
                          replace H : (if t120 < 0 then (some true) else ((laws_at.f kj18 a0 a1 (wrap64 (t120 + 1))).bind fun t121 => (if t121 ≥ 0 then (some true) else (if t114.toList = t117.toList then (some (t116.toList == t119.toList)) else (some false))))) = some r := H
                          have A27 := Aside0.mk A270
                          clear A270
                          by_cases c28 : t120 < 0
                          · rw [if_pos c28] at H
                            have c28b0 : decide (t120 < 0) = true := decide_eq_true c28
                            clear c28
                            obtain rfl := Option.some.inj H
                            go_wp2_with (first | ((with_reducible refine gate_callee (f := 10) rfl ?_); refine goesL_ (some 85) rfl rfl Try.func10 (by kernel_rfl) rfl #[.string a0, .string a1, .int .i64 0] rfl (by (try simp only [List.map_toArray, List.map_cons, List.map_nil]); first | done | rfl | (simp only [List.length_drop, List.length_take]; rfl)) ?_; (with_reducible refine (laws_at.calls kj18 a0 a1 0 t120 _ A27.out).mono ?_); rintro e w' ⟨rfl, ⟨nd, rfl⟩⟩; refine ⟨_, rfl, ?_⟩))
                            go_ret
                            exact ⟨by first | rfl | (simp; done) | (simp [*]; done), by repeat (first | exact Drawn0.refl _ | apply Drawn0.step)⟩
                          · rw [if_neg c28] at H
                            have c28b0 : decide (t120 < 0) = false := decide_eq_false c28
                            clear c28
                            replace H := Option.bind_eq_some_iff.mp H
                            obtain ⟨t121, A290, H⟩ := H
                            replace H : (if t121 ≥ 0 then (some true) else (if t114.toList = t117.toList then (some (t116.toList == t119.toList)) else (some false))) = some r := H
                            have A29 := Aside0.mk A290
                            clear A290
                            by_cases c30 : t121 ≥ 0
                            · rw [if_pos c30] at H
                              have c30b0 : decide (0 ≤ t121) = true := decide_eq_true c30
                              clear c30
                              obtain rfl := Option.some.inj H
                              go_wp2_with (first | ((with_reducible refine gate_callee (f := 10) rfl ?_); refine goesL_ (some 85) rfl rfl Try.func10 (by kernel_rfl) rfl #[.string a0, .string a1, .int .i64 0] rfl (by (try simp only [List.map_toArray, List.map_cons, List.map_nil]); first | done | rfl | (simp only [List.length_drop, List.length_take]; rfl)) ?_; (with_reducible refine (laws_at.calls kj18 a0 a1 0 t120 _ A27.out).mono ?_); rintro e w' ⟨rfl, ⟨nd, rfl⟩⟩; refine ⟨_, rfl, ?_⟩) | (go_at_call 10; (with_reducible refine (laws_at.calls kj18 a0 a1 (wrap64 (t120 + 1)) t121 _ A29.out).mono ?_); rintro e w' ⟨rfl, ⟨nd, rfl⟩⟩))
                              go_ret
                              exact ⟨by first | rfl | (simp; done) | (simp [*]; done), by repeat (first | exact Drawn0.refl _ | apply Drawn0.step)⟩
                            · rw [if_neg c30] at H
                              have c30b0 : decide (0 ≤ t121) = false := decide_eq_false c30
                              clear c30
                              by_cases c31 : t114.toList = t117.toList
                              · rw [if_pos c31] at H
                                have c31b0 : (t114.toList == t117.toList) = true := beq_iff_eq.mpr c31
                                have c31b1 : (t114.toList != t117.toList) = false := bne_eq_false_iff_eq.mpr c31
                                clear c31
                                obtain rfl := Option.some.inj H
                                go_wp2_with (first | ((with_reducible refine gate_callee (f := 10) rfl ?_); refine goesL_ (some 85) rfl rfl Try.func10 (by kernel_rfl) rfl #[.string a0, .string a1, .int .i64 0] rfl (by (try simp only [List.map_toArray, List.map_cons, List.map_nil]); first | done | rfl | (simp only [List.length_drop, List.length_take]; rfl)) ?_; (with_reducible refine (laws_at.calls kj18 a0 a1 0 t120 _ A27.out).mono ?_); rintro e w' ⟨rfl, ⟨nd, rfl⟩⟩; refine ⟨_, rfl, ?_⟩) | (go_at_call 10; (with_reducible refine (laws_at.calls kj18 a0 a1 (wrap64 (t120 + 1)) t121 _ A29.out).mono ?_); rintro e w' ⟨rfl, ⟨nd, rfl⟩⟩))
                                go_ret
                                exact ⟨by first | rfl | (simp; done) | (simp [*]; done), by repeat (first | exact Drawn0.refl _ | apply Drawn0.step)⟩
                              · rw [if_neg c31] at H
                                have c31b0 : (t114.toList == t117.toList) = false := beq_eq_false_iff_ne.mpr c31
                                have c31b1 : (t114.toList != t117.toList) = true := bne_iff_ne.mpr c31
                                obtain rfl := Option.some.inj H
                                go_wp2_with (first | ((with_reducible refine gate_callee (f := 10) rfl ?_); refine goesL_ (some 85) rfl rfl Try.func10 (by kernel_rfl) rfl #[.string a0, .string a1, .int .i64 0] rfl (by (try simp only [List.map_toArray, List.map_cons, List.map_nil]); first | done | rfl | (simp only [List.length_drop, List.length_take]; rfl)) ?_; (with_reducible refine (laws_at.calls kj18 a0 a1 0 t120 _ A27.out).mono ?_); rintro e w' ⟨rfl, ⟨nd, rfl⟩⟩; refine ⟨_, rfl, ?_⟩) | (go_at_call 10; (with_reducible refine (laws_at.calls kj18 a0 a1 (wrap64 (t120 + 1)) t121 _ A29.out).mono ?_); rintro e w' ⟨rfl, ⟨nd, rfl⟩⟩))
                                go_ret
                                exact ⟨by first | rfl | (simp; done) | (simp [*]; done), by repeat (first | exact Drawn0.refl _ | apply Drawn0.step)⟩

/-- THE ONE PURE STATEMENT of laws_FnPartitionParts: yours. -/
def laws_FnPartitionParts.Pure : Prop := ∀ (a0 : ByteArray) (a1 : ByteArray), a0.size ≤ 140737488351232 → a1.size ≤ 140737488351232 → ∃ k, laws_FnPartitionParts.f k a0 a1 = some true
theorem laws_FnPartitionParts.walk (P : laws_FnPartitionParts.Pure) (a0 : ByteArray) (a1 : ByteArray) (w : World) (w0 : a0.size ≤ 140737488351232) (w1 : a1.size ≤ 140737488351232) :
    Calls Try.prog 5 #[.string a0, .string a1] w fun e w' => e = .returned (.bool true) ∧ Below w.heap.size w w' := by
  obtain ⟨k, h⟩ := P a0 a1 w0 w1
  refine (laws_FnPartitionParts.calls k a0 a1 true w h).mono ?_
  rintro e w' ⟨rfl, hd⟩
  exact ⟨rfl, hd.below⟩

end Go.Proofs.Ytobcoplfniojkaa.PFnPartitionParts
