/- The walks of laws.letter, separated and single. -/
import Derived.Test.YtinchnmmemhfiaaDoorCamelLaw
import Derived.Test.YtinchnmmemhfiaaDoorDec
import Derived.Maps.AppendAt
import Derived.LoopTactic
set_option linter.unusedVariables false
namespace Go.Proofs.YtinchnmmemhfiaaDoor
open Go.RowKit Plain

theorem byte_at (s : ByteArray) (i : Nat) (h : i < s.size) : s.data.toList[i]? = some (s[i]'h) := by
  rw [Array.getElem?_toList, Array.getElem?_eq_getElem (by exact h)]
  rfl
theorem letter_any (x : UInt8) (w : World) :
    Calls Tryd.prog 12 #[.int .u8 (x.toNat : Int)] w fun e w' => e = .returned (.bool (capB x || lowB x)) ∧ w' = w := by
  have hx := x.toNat_lt
  obtain ⟨L, hL⟩ : ∃ L, (capB x || lowB x) = L := ⟨_, rfl⟩
  rw [hL]
  unfold capB lowB at hL
  generalize x.toNat = c at hL hx ⊢
  by_cases h1 : (97 : Int) ≤ (c : Int)
  · by_cases h2 : (c : Int) ≤ 122
    · obtain rfl : L = true := by rw [← hL]; simp; omega
      clear hL
      go_enter Tryd.func12, Tryd.ntmps12
      go_wp2
      go_ret
      exact ⟨rfl, rfl⟩
    · obtain rfl : L = false := by rw [← hL]; simp; omega
      have h3 : ¬ (c : Int) ≤ 90 := by omega
      have h4 : (65 : Int) ≤ (c : Int) := by omega
      clear hL
      go_enter Tryd.func12, Tryd.ntmps12
      go_wp2
      go_ret
      exact ⟨rfl, rfl⟩
  · by_cases h2 : (65 : Int) ≤ (c : Int)
    · by_cases h3 : (c : Int) ≤ 90
      · obtain rfl : L = true := by rw [← hL]; simp; omega
        clear hL
        go_enter Tryd.func12, Tryd.ntmps12
        go_wp2
        go_ret
        exact ⟨rfl, rfl⟩
      · obtain rfl : L = false := by rw [← hL]; simp; omega
        clear hL
        go_enter Tryd.func12, Tryd.ntmps12
        go_wp2
        go_ret
        exact ⟨rfl, rfl⟩
    · obtain rfl : L = false := by rw [← hL]; simp; omega
      clear hL
      go_enter Tryd.func12, Tryd.ntmps12
      go_wp2
      go_ret
      exact ⟨rfl, rfl⟩

theorem long_any (s : ByteArray) (w : World) (hs : s.size ≤ 140737488355328) :
    Calls Tryd.prog 13 #[.string s] w fun e w' => e = .returned (.bool (decide (4096 < s.size))) ∧ w' = w := by
  by_cases h : 4096 < s.size
  · have hz : (4096 : Int) < (s.size : Int) := by omega
    rw [decide_eq_true h]
    go_enter Tryd.func13, Tryd.ntmps13
    go_wp2
    go_ret
    exact ⟨rfl, rfl⟩
  · have hz : ¬ (4096 : Int) < (s.size : Int) := by omega
    rw [decide_eq_false h]
    go_enter Tryd.func13, Tryd.ntmps13
    go_wp2
    go_ret
    exact ⟨rfl, rfl⟩
/-- the kinds of bytes that 'separated' tells apart -/
theorem kind_of (x : UInt8) : (capB x || lowB x) = true ∧ domB x = true ∧ alnB x = true ∨
    (capB x || lowB x) = false ∧ domB x = true ∧ alnB x = true ∧ ¬ (x.toNat : Int) < 48 ∧ ¬ (57 : Int) < x.toNat ∨
    (capB x || lowB x) = false ∧ domB x = true ∧ alnB x = false ∧ (x.toNat : Int) = 32 ∨
    (capB x || lowB x) = false ∧ domB x = true ∧ alnB x = false ∧ (x.toNat : Int) = 95 ∨
    (capB x || lowB x) = false ∧ domB x = true ∧ alnB x = false ∧ (x.toNat : Int) = 45 ∨
    (capB x || lowB x) = false ∧ domB x = false ∧ ((x.toNat : Int) < 48 ∨ (57 : Int) < x.toNat) ∧ (x.toNat : Int) ≠ 32 ∧ (x.toNat : Int) ≠ 95 ∧ (x.toNat : Int) ≠ 45 := by
  unfold domB alnB conB capB lowB numB
  generalize x.toNat = c
  simp
  omega
def sepaB (s : ByteArray) : Bool := s.data.toList.all domB && decide (s.size ≤ 4096)

set_option maxHeartbeats 2000000 in
set_option maxRecDepth 100000 in
theorem sepa_any (s : ByteArray) (w : World) (hs : s.size ≤ 140737488355328) :
    Calls Tryd.prog 6 #[.string s] w fun e w' => e = .returned (.bool (sepaB s)) ∧ w' = w := by
  go_enter Tryd.func6, Tryd.ntmps6
  go_wp2
  go_loopw [3] (fun iv wr => ∃ (i : Nat), iv = .int .i64 i ∧ i ≤ s.size ∧ (∀ j b, j < i → s.data.toList[j]? = some b → domB b = true) ∧ wr = w) (fun iv _ => match iv with | .int _ i => s.size - i.toNat | _ => 0)
  case atStart => exact ⟨0, rfl, Nat.zero_le _, fun j b h => by omega, rfl⟩
  case round =>
    obtain ⟨i, rfl, his, hno, rfl⟩ := hrel
    have HN := Lib.hid hno
    clear hno
    by_cases hlt : i < s.size
    · have hz : (i : Int) < (s.size : Int) := by omega
      have hat := byte_at s i hlt
      have HA := Lib.hid hat
      clear hat
      have hx256 : ((s[i]'hlt).toNat : Int) < 256 := by have := (s[i]'hlt).toNat_lt; omega
      have HL := Lib.hid (fun w => letter_any (s[i]'hlt) w)
      rcases kind_of (s[i]'hlt) with ⟨h1, h2, h3⟩ | ⟨h1, h2, h3, h4, h5⟩ | ⟨h1, h2, h3, h4⟩ | ⟨h1, h2, h3, h4⟩ | ⟨h1, h2, h3, h4⟩ | ⟨h1, h2, h3, h4, h5, h6⟩
      · rw [h1] at HL
        have H2 := Lib.hid h2
        clear h1 h2 h3
        go_wp2_with (go_at_call 12; (with_reducible refine (HL.out _).mono ?_); rintro e w1 ⟨rfl, rfl⟩; dsimp only)
        go_roundw
        case rel =>
          refine ⟨i + 1, by go_num, by omega, fun j b h1 h2 => ?_, trivial⟩
          by_cases hji : j < i
          · exact HN.out j b hji h2
          · obtain rfl : j = i := by omega
            rw [HA.out] at h2
            obtain rfl := Option.some.inj h2
            exact H2.out
        case measure => show s.size - ((i : Int) + 1).toNat < s.size - (i : Int).toNat; omega
      · rw [h1] at HL
        have H2 := Lib.hid h2
        clear h1 h2 h3
        go_wp2_with (go_at_call 12; (with_reducible refine (HL.out _).mono ?_); rintro e w1 ⟨rfl, rfl⟩; dsimp only)
        go_roundw
        case rel =>
          refine ⟨i + 1, by go_num, by omega, fun j b h1 h2 => ?_, trivial⟩
          by_cases hji : j < i
          · exact HN.out j b hji h2
          · obtain rfl : j = i := by omega
            rw [HA.out] at h2
            obtain rfl := Option.some.inj h2
            exact H2.out
        case measure => show s.size - ((i : Int) + 1).toNat < s.size - (i : Int).toNat; omega
      · rw [h1] at HL
        have H2 := Lib.hid h2
        have e0 : (((s[i]'hlt).toNat : Int) : Int) < 48 := by omega
        have e32 : (((s[i]'hlt).toNat : Int) != 32) = false := by rw [h4]; rfl
        clear h1 h2 h3 h4
        go_wp2_with (go_at_call 12; (with_reducible refine (HL.out _).mono ?_); rintro e w1 ⟨rfl, rfl⟩; dsimp only)
        go_roundw
        case rel =>
          refine ⟨i + 1, by go_num, by omega, fun j b h1 h2 => ?_, trivial⟩
          by_cases hji : j < i
          · exact HN.out j b hji h2
          · obtain rfl : j = i := by omega
            rw [HA.out] at h2
            obtain rfl := Option.some.inj h2
            exact H2.out
        case measure => show s.size - ((i : Int) + 1).toNat < s.size - (i : Int).toNat; omega
      · rw [h1] at HL
        have H2 := Lib.hid h2
        have e0 : ¬ ((s[i]'hlt).toNat : Int) < 48 := by omega
        have e9 : (57 : Int) < ((s[i]'hlt).toNat : Int) := by omega
        have e32 : (((s[i]'hlt).toNat : Int) != 32) = true := by rw [bne_iff_ne]; omega
        have e95 : (((s[i]'hlt).toNat : Int) != 95) = false := by rw [h4]; rfl
        clear h1 h2 h3 h4
        go_wp2_with (go_at_call 12; (with_reducible refine (HL.out _).mono ?_); rintro e w1 ⟨rfl, rfl⟩; dsimp only)
        go_roundw
        case rel =>
          refine ⟨i + 1, by go_num, by omega, fun j b h1 h2 => ?_, trivial⟩
          by_cases hji : j < i
          · exact HN.out j b hji h2
          · obtain rfl : j = i := by omega
            rw [HA.out] at h2
            obtain rfl := Option.some.inj h2
            exact H2.out
        case measure => show s.size - ((i : Int) + 1).toNat < s.size - (i : Int).toNat; omega
      · rw [h1] at HL
        have H2 := Lib.hid h2
        have e0 : ((s[i]'hlt).toNat : Int) < 48 := by omega
        have e32 : (((s[i]'hlt).toNat : Int) != 32) = true := by rw [bne_iff_ne]; omega
        have e95 : (((s[i]'hlt).toNat : Int) != 95) = true := by rw [bne_iff_ne]; omega
        have e45 : (((s[i]'hlt).toNat : Int) != 45) = false := by rw [h4]; rfl
        clear h1 h2 h3 h4
        go_wp2_with (go_at_call 12; (with_reducible refine (HL.out _).mono ?_); rintro e w1 ⟨rfl, rfl⟩; dsimp only)
        go_roundw
        case rel =>
          refine ⟨i + 1, by go_num, by omega, fun j b h1 h2 => ?_, trivial⟩
          by_cases hji : j < i
          · exact HN.out j b hji h2
          · obtain rfl : j = i := by omega
            rw [HA.out] at h2
            obtain rfl := Option.some.inj h2
            exact H2.out
        case measure => show s.size - ((i : Int) + 1).toNat < s.size - (i : Int).toNat; omega
      · rw [h1] at HL
        have H2 := Lib.hid h2
        have e32 : (((s[i]'hlt).toNat : Int) != 32) = true := by rw [bne_iff_ne]; omega
        have e95 : (((s[i]'hlt).toNat : Int) != 95) = true := by rw [bne_iff_ne]; omega
        have e45 : (((s[i]'hlt).toNat : Int) != 45) = true := by rw [bne_iff_ne]; omega
        clear h1 h2 h4 h5 h6
        have hfin : Hid (sepaB s = false) := by
          refine Lib.hid ?_
          have hno : ¬ s.data.toList.all domB = true := fun h => by
            have := List.all_eq_true.1 h _ (List.mem_of_getElem? HA.out)
            rw [H2.out] at this
            cases this
          unfold sepaB
          rw [Bool.eq_false_iff.2 hno]
          rfl
        by_cases e0 : ((s[i]'hlt).toNat : Int) < 48
        · clear h3
          go_wp2_with (go_at_call 12; (with_reducible refine (HL.out _).mono ?_); rintro e w1 ⟨rfl, rfl⟩; dsimp only)
          go_ret
          exact ⟨ret_bool hfin.out.symm, rfl⟩
        · have e9 : (57 : Int) < ((s[i]'hlt).toNat : Int) := by omega
          clear h3
          go_wp2_with (go_at_call 12; (with_reducible refine (HL.out _).mono ?_); rintro e w1 ⟨rfl, rfl⟩; dsimp only)
          go_ret
          exact ⟨ret_bool hfin.out.symm, rfl⟩
    · have hz : ¬ (i : Int) < (s.size : Int) := by omega
      have hall : Hid (s.data.toList.all domB = true) := Lib.hid (List.all_eq_true.2 fun b hb => by
        obtain ⟨j, hj⟩ := List.getElem?_of_mem hb
        have := (List.getElem?_eq_some_iff.1 hj).1
        rw [← Lib.size_eq] at this
        exact HN.out j b (by omega) hj)
      have HLo := Lib.hid (fun w => long_any s w hs)
      go_wp2_with (go_at_call 13; (with_reducible refine (HLo.out _).mono ?_); rintro e w1 ⟨rfl, rfl⟩; dsimp only)
      go_ret
      refine ⟨ret_bool ?_, rfl⟩
      unfold sepaB
      rw [hall.out]
      by_cases h : 4096 < s.size
      · rw [decide_eq_true h, decide_eq_false (by omega)]; rfl
      · rw [decide_eq_false h, decide_eq_true (by omega)]; rfl

theorem aln_of (x : UInt8) : (capB x || lowB x) = true ∧ alnB x = true ∨ (capB x || lowB x) = false ∧ alnB x = true ∧ (48 : Int) ≤ x.toNat ∧ (x.toNat : Int) ≤ 57 ∨ (capB x || lowB x) = false ∧ alnB x = false ∧ ((x.toNat : Int) < 48 ∨ (57 : Int) < x.toNat) := by
  unfold alnB capB lowB numB
  generalize x.toNat = c
  simp
  omega
theorem drop_byte (s : ByteArray) (k : Nat) (h : k < s.size) : s.data.toList.drop k = (s[k]'h) :: s.data.toList.drop (k + 1) := by
  have := byte_at s k h
  obtain ⟨h1, h2⟩ := List.getElem?_eq_some_iff.1 this
  rw [List.drop_eq_getElem_cons h1, h2]
set_option maxHeartbeats 2000000 in
set_option maxRecDepth 100000 in
theorem single_any (s : ByteArray) (w : World) (hs : s.size ≤ 140737488355328) :
    Calls Tryd.prog 7 #[.string s] w fun e w' => e = .returned (.bool (sgl false s.data.toList)) ∧ w' = w := by
  obtain ⟨R, hR⟩ : ∃ R, sgl false s.data.toList = R := ⟨_, rfl⟩
  rw [hR]
  have HR := Lib.hid hR
  clear hR
  go_enter Tryd.func7, Tryd.ntmps7
  go_wp2
  go_loopw [3, 4] (fun wv iv wr => ∃ (i : Nat) (b : Bool), iv = .int .i64 i ∧ wv = .bool b ∧ i ≤ s.size ∧ sgl b (s.data.toList.drop i) = R ∧ wr = w) (fun _ iv _ => match iv with | .int _ i => s.size - i.toNat | _ => 0)
  case atStart => exact ⟨0, false, rfl, rfl, Nat.zero_le _, by simpa using HR.out, rfl⟩
  case round =>
    obtain ⟨i, b, rfl, rfl, his, hno, rfl⟩ := hrel
    by_cases hlt : i < s.size
    · have hz : (i : Int) < (s.size : Int) := by omega
      rw [drop_byte s i hlt] at hno
      have HN := Lib.hid hno
      clear hno
      have hx256 : ((s[i]'hlt).toNat : Int) < 256 := by have := (s[i]'hlt).toNat_lt; omega
      have HL := Lib.hid (fun w => letter_any (s[i]'hlt) w)
      rcases aln_of (s[i]'hlt) with ⟨h1, h2⟩ | ⟨h1, h2, h3, h4⟩ | ⟨h1, h2, h3⟩
      all_goals rw [h1] at HL
      all_goals have H2 := Lib.hid h2
      all_goals clear h1 h2
      · cases b
        all_goals
          go_wp2_with (go_at_call 12; (with_reducible refine (HL.out _).mono ?_); rintro e w1 ⟨rfl, rfl⟩; dsimp only)
          go_roundw
          case rel => exact ⟨i + 1, true, by go_num, rfl, by omega, by have := HN.out; simpa [sgl, H2.out] using this, trivial⟩
          case measure => show s.size - ((i : Int) + 1).toNat < s.size - (i : Int).toNat; omega
      · cases b
        all_goals
          go_wp2_with (go_at_call 12; (with_reducible refine (HL.out _).mono ?_); rintro e w1 ⟨rfl, rfl⟩; dsimp only)
          go_roundw
          case rel => exact ⟨i + 1, true, by go_num, rfl, by omega, by have := HN.out; simpa [sgl, H2.out] using this, trivial⟩
          case measure => show s.size - ((i : Int) + 1).toNat < s.size - (i : Int).toNat; omega
      · cases b
        · have hfin : Hid (R = false) := Lib.hid (by have := HN.out; simpa [sgl, H2.out] using this.symm)
          by_cases e0 : ((s[i]'hlt).toNat : Int) < 48
          · clear h3
            go_wp2_with (go_at_call 12; (with_reducible refine (HL.out _).mono ?_); rintro e w1 ⟨rfl, rfl⟩; dsimp only)
            go_ret
            exact ⟨ret_bool hfin.out.symm, rfl⟩
          · have e9 : decide (((s[i]'hlt).toNat : Int) ≤ 57) = false := by rw [decide_eq_false_iff_not]; omega
            clear h3
            go_wp2_with (go_at_call 12; (with_reducible refine (HL.out _).mono ?_); rintro e w1 ⟨rfl, rfl⟩; dsimp only)
            go_ret
            exact ⟨ret_bool hfin.out.symm, rfl⟩
        · by_cases e0 : ((s[i]'hlt).toNat : Int) < 48
          · clear h3
            go_wp2_with (go_at_call 12; (with_reducible refine (HL.out _).mono ?_); rintro e w1 ⟨rfl, rfl⟩; dsimp only)
            go_roundw
            case rel => exact ⟨i + 1, false, by go_num, rfl, by omega, by have := HN.out; simpa [sgl, H2.out] using this, trivial⟩
            case measure => show s.size - ((i : Int) + 1).toNat < s.size - (i : Int).toNat; omega
          · have e9 : decide (((s[i]'hlt).toNat : Int) ≤ 57) = false := by rw [decide_eq_false_iff_not]; omega
            clear h3
            go_wp2_with (go_at_call 12; (with_reducible refine (HL.out _).mono ?_); rintro e w1 ⟨rfl, rfl⟩; dsimp only)
            go_roundw
            case rel => exact ⟨i + 1, false, by go_num, rfl, by omega, by have := HN.out; simpa [sgl, H2.out] using this, trivial⟩
            case measure => show s.size - ((i : Int) + 1).toNat < s.size - (i : Int).toNat; omega
    · have hz : ¬ (i : Int) < (s.size : Int) := by omega
      have hfin : Hid (b = R) := Lib.hid (by
        rw [List.drop_eq_nil_of_le (by rw [← Lib.size_eq]; omega)] at hno
        exact hno)
      clear hno
      go_wp2
      go_ret
      exact ⟨ret_bool hfin.out, rfl⟩
end Go.Proofs.YtinchnmmemhfiaaDoor
