/- The reference's numbers: spec.number, spec.IntOf, spec.UintOf, spec.StringOf. -/
import Derived.Test.YtmmgjajclhhacaaDoorTNum
import Derived.Deep.QuietTactic
set_option linter.unusedVariables false
namespace Go.Proofs.YtmmgjajclhhacaaDoor
open Go.RowKit Go.Maps

theorem byteAt (s : ByteArray) (i : Nat) (h : i < s.size) : s.data.toList.drop i = s[i]'h :: s.data.toList.drop (i + 1) := by
  have hl : i < s.data.toList.length := by rw [← Lib.size_eq]; exact h
  rw [List.drop_eq_getElem_cons hl]
  rfl
set_option maxHeartbeats 4000000 in
set_option maxRecDepth 100000 in
theorem number_any (s : ByteArray) (M : Nat) (w : World) (hs : s.size ≤ 2147483647) (h9 : 9 ≤ M) (hM : M ≤ 18446744073709551615) (o : Option Nat) (ho : numB M s.data.toList = o) :
    Calls Tryd.prog 20 #[.string s, .int .u64 (M : Int)] w fun e w' => e = .returned (.tuple #[.int .u64 ((o.getD 0 : Nat) : Int), .bool o.isSome]) ∧ w = w' := by
  by_cases h0 : s.size = 0
  · have hn : s.data.toList = [] := List.eq_nil_of_length_eq_zero (by rw [← Lib.size_eq]; exact h0)
    have ho2 : o = none := by rw [← ho, hn]; rfl
    subst ho2
    clear ho hn
    have hz : (s.size : Int) = 0 := by omega
    clear h0
    go_enter Tryd.func20, Tryd.ntmps20
    go_wp2
    go_loopg [6, 11] 1 (fun g nv iv wr => g = 1 ∧ nv = .int .u64 0 ∧ iv = .int .i64 0 ∧ w = wr)
    case atStart => exact ⟨rfl, rfl, rfl, rfl⟩
    case round =>
      obtain ⟨rfl, rfl, rfl, rfl⟩ := hrel
      go_wp2
      go_ret2
      exact ⟨rfl, rfl⟩
  have hne : s.data.toList ≠ [] := by
    intro e
    have := congrArg List.length e
    rw [← Lib.size_eq] at this
    exact h0 this
  have HO : Hid (numF M 0 s.data.toList = o) := Lib.hid (by rw [← ho]; unfold numB; rw [if_neg hne])
  have hpos : (0 : Int) < (s.size : Int) := by omega
  have hposN : 0 < s.size := by omega
  clear ho hne h0
  go_enter Tryd.func20, Tryd.ntmps20
  go_wp2
  go_loopg [6, 11] s.size (fun g nv iv wr => ∃ (n i : Nat), nv = .int .u64 n ∧ iv = .int .i64 i ∧ i ≤ s.size ∧ g = s.size - i ∧ n ≤ M ∧ Hid (numF M n (s.data.toList.drop i) = o) ∧ w = wr)
  case atStart => exact ⟨0, 0, rfl, rfl, Nat.zero_le _, rfl, Nat.zero_le _, HO, rfl⟩
  case round =>
    obtain ⟨n, i, rfl, rfl, hi, rfl, hn, HI, rfl⟩ := hrel
    by_cases hin : i < s.size
    · have hiz : (i : Int) < (s.size : Int) := by omega
      have hb := byteAt s i hin
      have hI := HI.out
      rw [hb, numF] at hI
      clear hb
      have hc256 : ((s[i]'hin).toNat : Int) < 256 := by have := (s[i]'hin).toNat_lt; omega
      by_cases hd : 48 ≤ (s[i]'hin).toNat ∧ (s[i]'hin).toNat ≤ 57
      · obtain ⟨d, hd2⟩ : ∃ d, (s[i]'hin).toNat = d + 48 := ⟨(s[i]'hin).toNat - 48, by omega⟩
        have hd9 : d ≤ 9 := by omega
        have k1 : (48 : Int) ≤ ((s[i]'hin).toNat : Int) := by omega
        have k2 : ((s[i]'hin).toNat : Int) ≤ 57 := by omega
        obtain ⟨q, hq⟩ : ∃ q, (M - d) / 10 = q := ⟨_, rfl⟩
        have hquo : Int.tdiv ((M : Int) - (d : Int)) 10 = (q : Int) := by
          rw [← Int.ofNat_sub (by omega), ← hq]; rfl
        have hsub : IntKind.u64.wrap (((s[i]'hin).toNat : Int) - 48) = (d : Int) := by rw [IntKind.wrap_u64]; omega
        have hsub2 : IntKind.u64.wrap ((M : Int) - (d : Int)) = (M : Int) - (d : Int) := by rw [IntKind.wrap_u64]; omega
        have hqw : IntKind.u64.wrap (q : Int) = (q : Int) := by rw [IntKind.wrap_u64]; omega
        have hds : (s[i]'hin).toNat - 48 = d := by omega
        rw [hds] at hI
        have hcw : IntKind.u64.wrap ((s[i]'hin).toNat : Int) = ((s[i]'hin).toNat : Int) := by rw [IntKind.wrap_u64]; omega
        by_cases hg : 10 * n + d ≤ M
        · rw [if_pos ⟨hd, hg⟩] at hI
          have HN := Lib.hid hI
          have hng : ¬ (q : Int) < (n : Int) := by
            have h1 : 10 * n ≤ M - d := by omega
            have h2 : n ≤ (M - d) / 10 := by omega
            omega
          have hm1 : IntKind.u64.wrap (10 * (n : Int)) = 10 * (n : Int) := by rw [IntKind.wrap_u64]; omega
          have hm2 : IntKind.u64.wrap (10 * (n : Int) + (d : Int)) = ((10 * n + d : Nat) : Int) := by rw [IntKind.wrap_u64]; omega
          have HG := Lib.hid hg
          clear hI hq hds hd2 hd hg
          go_wp2
          go_roundg (s.size - (i + 1))
          case measure => omega
          case rel => exact ⟨10 * n + d, i + 1, rfl, by go_num, by omega, rfl, HG.out, HN, rfl⟩
        · rw [if_neg (fun h => hg h.2)] at hI
          have hng : (q : Int) < (n : Int) := by
            have h2 : (M - d) / 10 < n := by omega
            omega
          subst hI
          clear hq hds hd2 hd hg
          go_wp2
          go_ret2
          exact ⟨rfl, rfl⟩
      · rw [if_neg (fun h => hd h.1)] at hI
        subst hI
        have hk : ((s[i]'hin).toNat : Int) < 48 ∨ (57 : Int) < ((s[i]'hin).toNat : Int) := by omega
        have hcw : IntKind.u64.wrap ((s[i]'hin).toNat : Int) = ((s[i]'hin).toNat : Int) := by rw [IntKind.wrap_u64]; omega
        obtain ⟨z, hz⟩ : ∃ z, IntKind.u64.wrap (((s[i]'hin).toNat : Int) - 48) = z := ⟨_, rfl⟩
        clear hd
        rcases hk with k1 | k2
        · have k1' : ¬ (48 : Int) ≤ ((s[i]'hin).toNat : Int) := by omega
          go_wp2
          go_ret2
          exact ⟨rfl, rfl⟩
        · have k1' : (48 : Int) ≤ ((s[i]'hin).toNat : Int) := by omega
          have k2' : ¬ ((s[i]'hin).toNat : Int) ≤ 57 := by omega
          go_wp2
          go_ret2
          exact ⟨rfl, rfl⟩
    · have hiz : ¬ (i : Int) < (s.size : Int) := by omega
      have hI := HI.out
      rw [List.drop_eq_nil_of_le (by rw [← Lib.size_eq]; omega), numF] at hI
      subst hI
      go_wp2
      go_ret2
      exact ⟨rfl, rfl⟩

theorem number_lit (s : ByteArray) (M : Nat) (Mi : Int) (hi : (M : Int) = Mi) (w : World) (hs : s.size ≤ 2147483647) (h9 : 9 ≤ M) (hM : M ≤ 18446744073709551615) (o : Option Nat) (ho : numB M s.data.toList = o) :
    Calls Tryd.prog 20 #[.string s, .int .u64 Mi] w fun e w' => e = .returned (.tuple #[.int .u64 ((o.getD 0 : Nat) : Int), .bool o.isSome]) ∧ w = w' := by
  subst hi
  exact number_any s M w hs h9 hM o ho
theorem numB_le (M : Nat) (l : List UInt8) (u : Nat) (h : numB M l = some u) : u ≤ M := by
  unfold numB at h
  split at h
  · cases h
  · exact numF_le M l 0 u (Nat.zero_le _) h
set_option maxRecDepth 100000 in
theorem sU64_any (is : Bool) (s : ByteArray) (d : Int) (w : World) (hs : s.size ≤ 2147483647) (R : Int) (hR : uW is (numB (2 ^ 64 - 1) s.data.toList) d = R) :
    Calls Tryd.prog 12 #[.string s, .bool is, .int .i64 64, .int .u64 d] w fun e w' => e = .returned (.int .u64 R) ∧ w = w' := by
  cases is with
  | false =>
    obtain rfl : d = R := hR
    go_enter Tryd.func12, Tryd.ntmps12
    go_wp2
    go_ret
    exact ⟨rfl, rfl⟩
  | true =>
    have HN := Lib.hid (number_lit s 18446744073709551615 18446744073709551615 rfl w hs (by decide) (Nat.le_refl _) _ rfl)
    cases ho : numB (2 ^ 64 - 1) s.data.toList with
    | none =>
      rw [ho] at hR
      obtain rfl : d = R := hR
      rw [show numB 18446744073709551615 s.data.toList = none from ho] at HN
      simp only [Option.getD_none, Option.isSome_none, Int.ofNat_zero] at HN
      clear ho
      go_enter Tryd.func12, Tryd.ntmps12
      go_wp2_with (go_at_call 20; (with_reducible refine HN.out.mono ?_); rintro e w1 ⟨rfl, rfl⟩; dsimp only)
      go_wp2
      go_ret
      exact ⟨rfl, rfl⟩
    | some u =>
      rw [ho] at hR
      obtain rfl : (u : Int) = R := hR
      rw [show numB 18446744073709551615 s.data.toList = some u from ho] at HN
      simp only [Option.getD_some, Option.isSome_some] at HN
      clear ho
      go_enter Tryd.func12, Tryd.ntmps12
      go_wp2_with (go_at_call 20; (with_reducible refine HN.out.mono ?_); rintro e w1 ⟨rfl, rfl⟩; dsimp only)
      go_wp2
      go_ret
      exact ⟨rfl, rfl⟩
set_option maxRecDepth 100000 in
theorem sU32_any (is : Bool) (s : ByteArray) (d : Int) (w : World) (hs : s.size ≤ 2147483647) (R : Int) (hR : uW is (numB (2 ^ 32 - 1) s.data.toList) d = R) :
    Calls Tryd.prog 12 #[.string s, .bool is, .int .i64 32, .int .u64 d] w fun e w' => e = .returned (.int .u64 R) ∧ w = w' := by
  cases is with
  | false =>
    obtain rfl : d = R := hR
    go_enter Tryd.func12, Tryd.ntmps12
    go_wp2
    go_ret
    exact ⟨rfl, rfl⟩
  | true =>
    have HN := Lib.hid (number_lit s 4294967295 4294967295 rfl w hs (by decide) (by decide) _ rfl)
    cases ho : numB (2 ^ 32 - 1) s.data.toList with
    | none =>
      rw [ho] at hR
      obtain rfl : d = R := hR
      rw [show numB 4294967295 s.data.toList = none from ho] at HN
      simp only [Option.getD_none, Option.isSome_none, Int.ofNat_zero] at HN
      clear ho
      go_enter Tryd.func12, Tryd.ntmps12
      go_wp2_with (go_at_call 20; (with_reducible refine HN.out.mono ?_); rintro e w1 ⟨rfl, rfl⟩; dsimp only)
      go_wp2
      go_ret
      exact ⟨rfl, rfl⟩
    | some u =>
      rw [ho] at hR
      obtain rfl : (u : Int) = R := hR
      rw [show numB 4294967295 s.data.toList = some u from ho] at HN
      simp only [Option.getD_some, Option.isSome_some] at HN
      clear ho
      go_enter Tryd.func12, Tryd.ntmps12
      go_wp2_with (go_at_call 20; (with_reducible refine HN.out.mono ?_); rintro e w1 ⟨rfl, rfl⟩; dsimp only)
      go_wp2
      go_ret
      exact ⟨rfl, rfl⟩
theorem sStr_any (is : Bool) (s d : ByteArray) (w : World) :
    Calls Tryd.prog 15 #[.string s, .bool is, .string d] w fun e w' => e = .returned (.string (if is then s else d)) ∧ w = w' := by
  cases is with
  | false =>
    go_enter Tryd.func15, Tryd.ntmps15
    go_wp2
    go_ret
    exact ⟨rfl, rfl⟩
  | true =>
    go_enter Tryd.func15, Tryd.ntmps15
    go_wp2
    go_ret
    exact ⟨rfl, rfl⟩
end Go.Proofs.YtmmgjajclhhacaaDoor
