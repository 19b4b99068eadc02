/- The reference's spec.IntOf, at 64 and 32 bits. -/
import Derived.Test.YtmmgjajclhhacaaDoorTSpec
set_option linter.unusedVariables false
namespace Go.Proofs.YtmmgjajclhhacaaDoor
open Go.RowKit Go.Maps

theorem tail_list (s : ByteArray) (hp : 0 < s.size) : s.data.toList = s[0]'hp :: (s.extract 1 s.size).data.toList := by
  have h := byteAt s 0 hp
  rw [List.drop_zero] at h
  rw [h, Lib.extract_data, List.take_of_length_le]
  rw [List.length_drop, ← Lib.size_eq]
  omega
theorem tail_size (s : ByteArray) : (s.extract 1 s.size).size = s.size - 1 := by simp
set_option maxRecDepth 100000 in
set_option maxHeartbeats 4000000 in
theorem sI64_no (s : ByteArray) (R : Int) (w : World) : Calls Tryd.prog 9 #[.string s, .bool false, .int .i64 64, .int .i64 R] w fun e w' => e = .returned (.int .i64 R) ∧ Below w.heap.size w w' := by
  go_enter Tryd.func9, Tryd.ntmps9
  go_wp2
  go_ret
  exact ⟨rfl, Below.refl _ _⟩
set_option maxRecDepth 100000 in
set_option maxHeartbeats 4000000 in
theorem sI64_neg (s : ByteArray) (d R : Int) (w : World) (hs : s.size ≤ 2147483647) (hp : 0 < s.size) (h1 : (s[0]'hp).toNat = 45) (hR : (match numB 9223372036854775808 (s.extract 1 s.size).data.toList with | some u => -(u : Int) | none => d) = R) :
    Calls Tryd.prog 9 #[.string s, .bool true, .int .i64 64, .int .i64 d] w fun e w' => e = .returned (.int .i64 R) ∧ Below w.heap.size w w' := by
  have hpz : (0 : Int) < (s.size : Int) := by omega
  have hpz1 : (1 : Int) ≤ (s.size : Int) := by omega
  have hz : ((s[0]'hp).toNat : Int) = 45 := by omega
  have HN := Lib.hid (fun (w : World) => number_lit (s.extract 1 s.size) 9223372036854775808 9223372036854775808 rfl w (by rw [tail_size]; omega) (by decide) (by decide) _ rfl)
  cases ho : numB 9223372036854775808 (s.extract 1 s.size).data.toList with
  | none =>
    rw [ho] at hR HN
    obtain rfl : d = R := hR
    simp only [Option.getD_none, Option.isSome_none, Int.ofNat_zero] at HN
    clear ho h1
    go_enter Tryd.func9, Tryd.ntmps9
    go_wp2
    go_quiet (fail)
    go_wp2_with (go_at_call 20; (with_reducible refine (HN.out _).mono ?_); rintro e w1 ⟨rfl, rfl⟩; dsimp only)
    go_wp2
    go_ret
    exact ⟨rfl, below_drewN (Below.refl _ _) _⟩
  | some u =>
    have hu := numB_le _ _ _ ho
    rw [ho] at hR HN
    obtain rfl : -(u : Int) = R := hR
    simp only [Option.getD_some, Option.isSome_some] at HN
    obtain ⟨z, hz1⟩ : ∃ z, IntKind.i64.wrap (u : Int) = z := ⟨_, rfl⟩
    have hz2 : IntKind.i64.wrap (-z) = -(u : Int) := by rw [← hz1, IntKind.wrap_i64, IntKind.wrap_i64]; omega
    clear ho hu h1
    go_enter Tryd.func9, Tryd.ntmps9
    go_wp2
    go_quiet (fail)
    go_wp2_with (go_at_call 20; (with_reducible refine (HN.out _).mono ?_); rintro e w1 ⟨rfl, rfl⟩; dsimp only)
    go_wp2
    go_ret
    exact ⟨rfl, below_drewN (Below.refl _ _) _⟩
set_option maxRecDepth 100000 in
set_option maxHeartbeats 4000000 in
theorem sI64_pos (s : ByteArray) (d R : Int) (w : World) (hs : s.size ≤ 2147483647) (hp : 0 < s.size) (h1 : (s[0]'hp).toNat = 43) (hR : (match numB 9223372036854775807 (s.extract 1 s.size).data.toList with | some u => (u : Int) | none => d) = R) :
    Calls Tryd.prog 9 #[.string s, .bool true, .int .i64 64, .int .i64 d] w fun e w' => e = .returned (.int .i64 R) ∧ Below w.heap.size w w' := by
  have hpz : (0 : Int) < (s.size : Int) := by omega
  have hpz1 : (1 : Int) ≤ (s.size : Int) := by omega
  have hz : ((s[0]'hp).toNat : Int) = 43 := by omega
  have HN := Lib.hid (fun (w : World) => number_lit (s.extract 1 s.size) 9223372036854775807 9223372036854775807 rfl w (by rw [tail_size]; omega) (by decide) (by decide) _ rfl)
  cases ho : numB 9223372036854775807 (s.extract 1 s.size).data.toList with
  | none =>
    rw [ho] at hR HN
    obtain rfl : d = R := hR
    simp only [Option.getD_none, Option.isSome_none, Int.ofNat_zero] at HN
    clear ho h1
    go_enter Tryd.func9, Tryd.ntmps9
    go_wp2
    go_quiet (fail)
    go_wp2_with (go_at_call 20; (with_reducible refine (HN.out _).mono ?_); rintro e w1 ⟨rfl, rfl⟩; dsimp only)
    go_wp2
    go_ret
    exact ⟨rfl, below_drewN (Below.refl _ _) _⟩
  | some u =>
    have hu := numB_le _ _ _ ho
    rw [ho] at hR HN
    obtain rfl : (u : Int) = R := hR
    simp only [Option.getD_some, Option.isSome_some] at HN
    have hz1 : IntKind.i64.wrap (u : Int) = (u : Int) := by rw [IntKind.wrap_i64]; omega
    clear ho hu h1
    go_enter Tryd.func9, Tryd.ntmps9
    go_wp2
    go_quiet (fail)
    go_wp2_with (go_at_call 20; (with_reducible refine (HN.out _).mono ?_); rintro e w1 ⟨rfl, rfl⟩; dsimp only)
    go_wp2
    go_ret
    exact ⟨rfl, below_drewN (Below.refl _ _) _⟩
set_option maxRecDepth 100000 in
set_option maxHeartbeats 4000000 in
theorem sI64_bare (s : ByteArray) (d R : Int) (w : World) (hs : s.size ≤ 2147483647) (hp : 0 < s.size) (h1 : ¬ (s[0]'hp).toNat = 45) (h2 : ¬ (s[0]'hp).toNat = 43) (hR : (match numB 9223372036854775807 s.data.toList with | some u => (u : Int) | none => d) = R) :
    Calls Tryd.prog 9 #[.string s, .bool true, .int .i64 64, .int .i64 d] w fun e w' => e = .returned (.int .i64 R) ∧ Below w.heap.size w w' := by
  have hpz : (0 : Int) < (s.size : Int) := by omega
  have hpz1 : (1 : Int) ≤ (s.size : Int) := by omega
  have hz : (((s[0]'hp).toNat : Int) == 45) = false := by rw [beq_eq_false_iff_ne]; omega
  have hz2 : (((s[0]'hp).toNat : Int) == 43) = false := by rw [beq_eq_false_iff_ne]; omega
  have HN := Lib.hid (fun (w : World) => number_lit s 9223372036854775807 9223372036854775807 rfl w hs (by decide) (by decide) _ rfl)
  cases ho : numB 9223372036854775807 s.data.toList with
  | none =>
    rw [ho] at hR HN
    obtain rfl : d = R := hR
    simp only [Option.getD_none, Option.isSome_none, Int.ofNat_zero] at HN
    clear ho h1 h2
    go_enter Tryd.func9, Tryd.ntmps9
    go_wp2
    go_quiet (fail)
    go_wp2_with (go_at_call 20; (with_reducible refine (HN.out _).mono ?_); rintro e w1 ⟨rfl, rfl⟩; dsimp only)
    go_wp2
    go_ret
    exact ⟨rfl, below_drewN (Below.refl _ _) _⟩
  | some u =>
    have hu := numB_le _ _ _ ho
    rw [ho] at hR HN
    obtain rfl : (u : Int) = R := hR
    simp only [Option.getD_some, Option.isSome_some] at HN
    have hz1 : IntKind.i64.wrap (u : Int) = (u : Int) := by rw [IntKind.wrap_i64]; omega
    clear ho hu h1 h2
    go_enter Tryd.func9, Tryd.ntmps9
    go_wp2
    go_quiet (fail)
    go_wp2_with (go_at_call 20; (with_reducible refine (HN.out _).mono ?_); rintro e w1 ⟨rfl, rfl⟩; dsimp only)
    go_wp2
    go_ret
    exact ⟨rfl, below_drewN (Below.refl _ _) _⟩
set_option maxRecDepth 100000 in
set_option maxHeartbeats 4000000 in
theorem sI64_nil (s : ByteArray) (d R : Int) (w : World) (hs : s.size ≤ 2147483647) (hp : s.size = 0) (hR : (match numB 9223372036854775807 s.data.toList with | some u => (u : Int) | none => d) = R) :
    Calls Tryd.prog 9 #[.string s, .bool true, .int .i64 64, .int .i64 d] w fun e w' => e = .returned (.int .i64 R) ∧ Below w.heap.size w w' := by
  have hp0 : ¬ 0 < (s.size : Int) := by omega
  have HN := Lib.hid (fun (w : World) => number_lit s 9223372036854775807 9223372036854775807 rfl w hs (by decide) (by decide) _ rfl)
  cases ho : numB 9223372036854775807 s.data.toList with
  | none =>
    rw [ho] at hR HN
    obtain rfl : d = R := hR
    simp only [Option.getD_none, Option.isSome_none, Int.ofNat_zero] at HN
    clear ho
    go_enter Tryd.func9, Tryd.ntmps9
    go_wp2
    go_quiet (fail)
    go_wp2_with (go_at_call 20; (with_reducible refine (HN.out _).mono ?_); rintro e w1 ⟨rfl, rfl⟩; dsimp only)
    go_wp2
    go_ret
    exact ⟨rfl, below_drewN (Below.refl _ _) _⟩
  | some u =>
    have hu := numB_le _ _ _ ho
    rw [ho] at hR HN
    obtain rfl : (u : Int) = R := hR
    simp only [Option.getD_some, Option.isSome_some] at HN
    have hz1 : IntKind.i64.wrap (u : Int) = (u : Int) := by rw [IntKind.wrap_i64]; omega
    clear ho hu
    go_enter Tryd.func9, Tryd.ntmps9
    go_wp2
    go_quiet (fail)
    go_wp2_with (go_at_call 20; (with_reducible refine (HN.out _).mono ?_); rintro e w1 ⟨rfl, rfl⟩; dsimp only)
    go_wp2
    go_ret
    exact ⟨rfl, below_drewN (Below.refl _ _) _⟩
theorem sI64_any (is : Bool) (s : ByteArray) (d R : Int) (w : World) (hs : s.size ≤ 2147483647) (hR : iW is (intB 64 s.data.toList) d = R) :
    Calls Tryd.prog 9 #[.string s, .bool is, .int .i64 64, .int .i64 d] w fun e w' => e = .returned (.int .i64 R) ∧ Below w.heap.size w w' := by
  cases is with
  | false =>
    obtain rfl : d = R := hR
    exact sI64_no s d w
  | true =>
    by_cases hp : 0 < s.size
    · have ht := tail_list s hp
      have hR2 : (intB 64 s.data.toList).getD d = R := hR
      by_cases h1 : (s[0]'hp).toNat = 45
      · refine sI64_neg s d R w hs hp h1 ?_
        rw [ht] at hR2
        unfold intB at hR2
        dsimp only at hR2
        rw [if_pos h1] at hR2
        rw [← hR2]
        show _ = (Option.map _ (numB 9223372036854775808 _)).getD d
        cases numB 9223372036854775808 (s.extract 1 s.size).data.toList <;> rfl
      · by_cases h2 : (s[0]'hp).toNat = 43
        · refine sI64_pos s d R w hs hp h2 ?_
          rw [ht] at hR2
          unfold intB at hR2
          dsimp only at hR2
          rw [if_neg h1, if_pos h2] at hR2
          rw [← hR2]
          show _ = (Option.map _ (numB 9223372036854775807 _)).getD d
          cases numB 9223372036854775807 (s.extract 1 s.size).data.toList <;> rfl
        · refine sI64_bare s d R w hs hp h1 h2 ?_
          have e : intB 64 s.data.toList = (numB (2 ^ (64 - 1) - 1) s.data.toList).map fun (u : Nat) => (u : Int) := by
            rw [ht]
            unfold intB
            dsimp only
            rw [if_neg h1, if_neg h2]
          rw [e] at hR2
          rw [← hR2]
          show _ = (Option.map _ (numB 9223372036854775807 _)).getD d
          cases numB 9223372036854775807 s.data.toList <;> rfl
    · refine sI64_nil s d R w hs (by omega) ?_
      have hn : s.data.toList = [] := List.eq_nil_of_length_eq_zero (by rw [← Lib.size_eq]; omega)
      rw [hn] at hR ⊢
      exact hR
set_option maxRecDepth 100000 in
set_option maxHeartbeats 4000000 in
theorem sI32_no (s : ByteArray) (R : Int) (w : World) : Calls Tryd.prog 9 #[.string s, .bool false, .int .i64 32, .int .i64 R] w fun e w' => e = .returned (.int .i64 R) ∧ Below w.heap.size w w' := by
  go_enter Tryd.func9, Tryd.ntmps9
  go_wp2
  go_ret
  exact ⟨rfl, Below.refl _ _⟩
set_option maxRecDepth 100000 in
set_option maxHeartbeats 4000000 in
theorem sI32_neg (s : ByteArray) (d R : Int) (w : World) (hs : s.size ≤ 2147483647) (hp : 0 < s.size) (h1 : (s[0]'hp).toNat = 45) (hR : (match numB 2147483648 (s.extract 1 s.size).data.toList with | some u => -(u : Int) | none => d) = R) :
    Calls Tryd.prog 9 #[.string s, .bool true, .int .i64 32, .int .i64 d] w fun e w' => e = .returned (.int .i64 R) ∧ Below w.heap.size w w' := by
  have hpz : (0 : Int) < (s.size : Int) := by omega
  have hpz1 : (1 : Int) ≤ (s.size : Int) := by omega
  have hz : ((s[0]'hp).toNat : Int) = 45 := by omega
  have HN := Lib.hid (fun (w : World) => number_lit (s.extract 1 s.size) 2147483648 2147483648 rfl w (by rw [tail_size]; omega) (by decide) (by decide) _ rfl)
  cases ho : numB 2147483648 (s.extract 1 s.size).data.toList with
  | none =>
    rw [ho] at hR HN
    obtain rfl : d = R := hR
    simp only [Option.getD_none, Option.isSome_none, Int.ofNat_zero] at HN
    clear ho h1
    go_enter Tryd.func9, Tryd.ntmps9
    go_wp2
    go_quiet (fail)
    go_wp2_with (go_at_call 20; (with_reducible refine (HN.out _).mono ?_); rintro e w1 ⟨rfl, rfl⟩; dsimp only)
    go_wp2
    go_ret
    exact ⟨rfl, below_drewN (Below.refl _ _) _⟩
  | some u =>
    have hu := numB_le _ _ _ ho
    rw [ho] at hR HN
    obtain rfl : -(u : Int) = R := hR
    simp only [Option.getD_some, Option.isSome_some] at HN
    obtain ⟨z, hz1⟩ : ∃ z, IntKind.i64.wrap (u : Int) = z := ⟨_, rfl⟩
    have hz2 : IntKind.i64.wrap (-z) = -(u : Int) := by rw [← hz1, IntKind.wrap_i64, IntKind.wrap_i64]; omega
    clear ho hu h1
    go_enter Tryd.func9, Tryd.ntmps9
    go_wp2
    go_quiet (fail)
    go_wp2_with (go_at_call 20; (with_reducible refine (HN.out _).mono ?_); rintro e w1 ⟨rfl, rfl⟩; dsimp only)
    go_wp2
    go_ret
    exact ⟨rfl, below_drewN (Below.refl _ _) _⟩
set_option maxRecDepth 100000 in
set_option maxHeartbeats 4000000 in
theorem sI32_pos (s : ByteArray) (d R : Int) (w : World) (hs : s.size ≤ 2147483647) (hp : 0 < s.size) (h1 : (s[0]'hp).toNat = 43) (hR : (match numB 2147483647 (s.extract 1 s.size).data.toList with | some u => (u : Int) | none => d) = R) :
    Calls Tryd.prog 9 #[.string s, .bool true, .int .i64 32, .int .i64 d] w fun e w' => e = .returned (.int .i64 R) ∧ Below w.heap.size w w' := by
  have hpz : (0 : Int) < (s.size : Int) := by omega
  have hpz1 : (1 : Int) ≤ (s.size : Int) := by omega
  have hz : ((s[0]'hp).toNat : Int) = 43 := by omega
  have HN := Lib.hid (fun (w : World) => number_lit (s.extract 1 s.size) 2147483647 2147483647 rfl w (by rw [tail_size]; omega) (by decide) (by decide) _ rfl)
  cases ho : numB 2147483647 (s.extract 1 s.size).data.toList with
  | none =>
    rw [ho] at hR HN
    obtain rfl : d = R := hR
    simp only [Option.getD_none, Option.isSome_none, Int.ofNat_zero] at HN
    clear ho h1
    go_enter Tryd.func9, Tryd.ntmps9
    go_wp2
    go_quiet (fail)
    go_wp2_with (go_at_call 20; (with_reducible refine (HN.out _).mono ?_); rintro e w1 ⟨rfl, rfl⟩; dsimp only)
    go_wp2
    go_ret
    exact ⟨rfl, below_drewN (Below.refl _ _) _⟩
  | some u =>
    have hu := numB_le _ _ _ ho
    rw [ho] at hR HN
    obtain rfl : (u : Int) = R := hR
    simp only [Option.getD_some, Option.isSome_some] at HN
    have hz1 : IntKind.i64.wrap (u : Int) = (u : Int) := by rw [IntKind.wrap_i64]; omega
    clear ho hu h1
    go_enter Tryd.func9, Tryd.ntmps9
    go_wp2
    go_quiet (fail)
    go_wp2_with (go_at_call 20; (with_reducible refine (HN.out _).mono ?_); rintro e w1 ⟨rfl, rfl⟩; dsimp only)
    go_wp2
    go_ret
    exact ⟨rfl, below_drewN (Below.refl _ _) _⟩
set_option maxRecDepth 100000 in
set_option maxHeartbeats 4000000 in
theorem sI32_bare (s : ByteArray) (d R : Int) (w : World) (hs : s.size ≤ 2147483647) (hp : 0 < s.size) (h1 : ¬ (s[0]'hp).toNat = 45) (h2 : ¬ (s[0]'hp).toNat = 43) (hR : (match numB 2147483647 s.data.toList with | some u => (u : Int) | none => d) = R) :
    Calls Tryd.prog 9 #[.string s, .bool true, .int .i64 32, .int .i64 d] w fun e w' => e = .returned (.int .i64 R) ∧ Below w.heap.size w w' := by
  have hpz : (0 : Int) < (s.size : Int) := by omega
  have hpz1 : (1 : Int) ≤ (s.size : Int) := by omega
  have hz : (((s[0]'hp).toNat : Int) == 45) = false := by rw [beq_eq_false_iff_ne]; omega
  have hz2 : (((s[0]'hp).toNat : Int) == 43) = false := by rw [beq_eq_false_iff_ne]; omega
  have HN := Lib.hid (fun (w : World) => number_lit s 2147483647 2147483647 rfl w hs (by decide) (by decide) _ rfl)
  cases ho : numB 2147483647 s.data.toList with
  | none =>
    rw [ho] at hR HN
    obtain rfl : d = R := hR
    simp only [Option.getD_none, Option.isSome_none, Int.ofNat_zero] at HN
    clear ho h1 h2
    go_enter Tryd.func9, Tryd.ntmps9
    go_wp2
    go_quiet (fail)
    go_wp2_with (go_at_call 20; (with_reducible refine (HN.out _).mono ?_); rintro e w1 ⟨rfl, rfl⟩; dsimp only)
    go_wp2
    go_ret
    exact ⟨rfl, below_drewN (Below.refl _ _) _⟩
  | some u =>
    have hu := numB_le _ _ _ ho
    rw [ho] at hR HN
    obtain rfl : (u : Int) = R := hR
    simp only [Option.getD_some, Option.isSome_some] at HN
    have hz1 : IntKind.i64.wrap (u : Int) = (u : Int) := by rw [IntKind.wrap_i64]; omega
    clear ho hu h1 h2
    go_enter Tryd.func9, Tryd.ntmps9
    go_wp2
    go_quiet (fail)
    go_wp2_with (go_at_call 20; (with_reducible refine (HN.out _).mono ?_); rintro e w1 ⟨rfl, rfl⟩; dsimp only)
    go_wp2
    go_ret
    exact ⟨rfl, below_drewN (Below.refl _ _) _⟩
set_option maxRecDepth 100000 in
set_option maxHeartbeats 4000000 in
theorem sI32_nil (s : ByteArray) (d R : Int) (w : World) (hs : s.size ≤ 2147483647) (hp : s.size = 0) (hR : (match numB 2147483647 s.data.toList with | some u => (u : Int) | none => d) = R) :
    Calls Tryd.prog 9 #[.string s, .bool true, .int .i64 32, .int .i64 d] w fun e w' => e = .returned (.int .i64 R) ∧ Below w.heap.size w w' := by
  have hp0 : ¬ 0 < (s.size : Int) := by omega
  have HN := Lib.hid (fun (w : World) => number_lit s 2147483647 2147483647 rfl w hs (by decide) (by decide) _ rfl)
  cases ho : numB 2147483647 s.data.toList with
  | none =>
    rw [ho] at hR HN
    obtain rfl : d = R := hR
    simp only [Option.getD_none, Option.isSome_none, Int.ofNat_zero] at HN
    clear ho
    go_enter Tryd.func9, Tryd.ntmps9
    go_wp2
    go_quiet (fail)
    go_wp2_with (go_at_call 20; (with_reducible refine (HN.out _).mono ?_); rintro e w1 ⟨rfl, rfl⟩; dsimp only)
    go_wp2
    go_ret
    exact ⟨rfl, below_drewN (Below.refl _ _) _⟩
  | some u =>
    have hu := numB_le _ _ _ ho
    rw [ho] at hR HN
    obtain rfl : (u : Int) = R := hR
    simp only [Option.getD_some, Option.isSome_some] at HN
    have hz1 : IntKind.i64.wrap (u : Int) = (u : Int) := by rw [IntKind.wrap_i64]; omega
    clear ho hu
    go_enter Tryd.func9, Tryd.ntmps9
    go_wp2
    go_quiet (fail)
    go_wp2_with (go_at_call 20; (with_reducible refine (HN.out _).mono ?_); rintro e w1 ⟨rfl, rfl⟩; dsimp only)
    go_wp2
    go_ret
    exact ⟨rfl, below_drewN (Below.refl _ _) _⟩
theorem sI32_any (is : Bool) (s : ByteArray) (d R : Int) (w : World) (hs : s.size ≤ 2147483647) (hR : iW is (intB 32 s.data.toList) d = R) :
    Calls Tryd.prog 9 #[.string s, .bool is, .int .i64 32, .int .i64 d] w fun e w' => e = .returned (.int .i64 R) ∧ Below w.heap.size w w' := by
  cases is with
  | false =>
    obtain rfl : d = R := hR
    exact sI32_no s d w
  | true =>
    by_cases hp : 0 < s.size
    · have ht := tail_list s hp
      have hR2 : (intB 32 s.data.toList).getD d = R := hR
      by_cases h1 : (s[0]'hp).toNat = 45
      · refine sI32_neg s d R w hs hp h1 ?_
        rw [ht] at hR2
        unfold intB at hR2
        dsimp only at hR2
        rw [if_pos h1] at hR2
        rw [← hR2]
        show _ = (Option.map _ (numB 2147483648 _)).getD d
        cases numB 2147483648 (s.extract 1 s.size).data.toList <;> rfl
      · by_cases h2 : (s[0]'hp).toNat = 43
        · refine sI32_pos s d R w hs hp h2 ?_
          rw [ht] at hR2
          unfold intB at hR2
          dsimp only at hR2
          rw [if_neg h1, if_pos h2] at hR2
          rw [← hR2]
          show _ = (Option.map _ (numB 2147483647 _)).getD d
          cases numB 2147483647 (s.extract 1 s.size).data.toList <;> rfl
        · refine sI32_bare s d R w hs hp h1 h2 ?_
          have e : intB 32 s.data.toList = (numB (2 ^ (32 - 1) - 1) s.data.toList).map fun (u : Nat) => (u : Int) := by
            rw [ht]
            unfold intB
            dsimp only
            rw [if_neg h1, if_neg h2]
          rw [e] at hR2
          rw [← hR2]
          show _ = (Option.map _ (numB 2147483647 _)).getD d
          cases numB 2147483647 s.data.toList <;> rfl
    · refine sI32_nil s d R w hs (by omega) ?_
      have hn : s.data.toList = [] := List.eq_nil_of_length_eq_zero (by rw [← Lib.size_eq]; omega)
      rw [hn] at hR ⊢
      exact hR
end Go.Proofs.YtmmgjajclhhacaaDoor
