/- The walks of laws.letter, simple; laws.few at a row of texts of the call's own. -/
import Derived.Test.YtdgaehkfdaacjaaDoorCaseLaw
import Derived.Test.YtdgaehkfdaacjaaDoorFew
import Derived.Test.YtdgaehkfdaacjaaDoorAllocT
set_option linter.unusedVariables false
namespace Go.Proofs.YtdgaehkfdaacjaaDoor
open Go.RowKit Plain

def alnB (b : UInt8) : Bool := capB b || lowB b || numB b
def simB (p : ByteArray) : Bool := p.data.toList.all alnB && decide (0 < p.size)
theorem letter_any (x : UInt8) (w : World) :
    Calls Tryd.prog 36 #[.int .u8 (x.toNat : Int)] w fun e w' => e = .returned (.bool (capB x || lowB x)) ∧ w' = w := by
  have hx := x.toNat_lt
  obtain ⟨L, hL⟩ : ∃ L, (capB x || lowB x) = L := ⟨_, rfl⟩
  rw [hL]
  unfold capB lowB at hL
  generalize x.toNat = c at hL hx ⊢
  by_cases h1 : (97 : Int) ≤ (c : Int)
  · by_cases h2 : (c : Int) ≤ 122
    · obtain rfl : L = true := by rw [← hL]; simp; omega
      clear hL
      go_enter Tryd.func36, Tryd.ntmps36
      go_wp2
      go_ret
      exact ⟨rfl, rfl⟩
    · obtain rfl : L = false := by rw [← hL]; simp; omega
      have h3 : ¬ (c : Int) ≤ 90 := by omega
      have h4 : (65 : Int) ≤ (c : Int) := by omega
      clear hL
      go_enter Tryd.func36, Tryd.ntmps36
      go_wp2
      go_ret
      exact ⟨rfl, rfl⟩
  · by_cases h2 : (65 : Int) ≤ (c : Int)
    · by_cases h3 : (c : Int) ≤ 90
      · obtain rfl : L = true := by rw [← hL]; simp; omega
        clear hL
        go_enter Tryd.func36, Tryd.ntmps36
        go_wp2
        go_ret
        exact ⟨rfl, rfl⟩
      · obtain rfl : L = false := by rw [← hL]; simp; omega
        clear hL
        go_enter Tryd.func36, Tryd.ntmps36
        go_wp2
        go_ret
        exact ⟨rfl, rfl⟩
    · obtain rfl : L = false := by rw [← hL]; simp; omega
      clear hL
      go_enter Tryd.func36, Tryd.ntmps36
      go_wp2
      go_ret
      exact ⟨rfl, rfl⟩

theorem aln_of (x : UInt8) : (capB x || lowB x) = true ∧ alnB x = true ∨ (capB x || lowB x) = false ∧ alnB x = true ∧ (48 : Int) ≤ x.toNat ∧ (x.toNat : Int) ≤ 57 ∨ (capB x || lowB x) = false ∧ alnB x = false ∧ ((x.toNat : Int) < 48 ∨ (57 : Int) < x.toNat) := by
  unfold alnB capB lowB numB
  generalize x.toNat = c
  simp
  omega

set_option maxHeartbeats 2000000 in
set_option maxRecDepth 100000 in
theorem simple_any (s : ByteArray) (w : World) (hs : s.size ≤ 140737488355328) :
    Calls Tryd.prog 20 #[.string s] w fun e w' => e = .returned (.bool (simB s)) ∧ w' = w := by
  go_enter Tryd.func20, Tryd.ntmps20
  go_wp2
  go_loopw [3] (fun iv wr => ∃ (i : Nat), iv = .int .i64 i ∧ i ≤ s.size ∧ (∀ j b, j < i → s.data.toList[j]? = some b → alnB b = true) ∧ wr = w) (fun iv _ => match iv with | .int _ i => s.size - i.toNat | _ => 0)
  case atStart => exact ⟨0, rfl, Nat.zero_le _, fun j b h => by omega, rfl⟩
  case round =>
    obtain ⟨i, rfl, his, hno, rfl⟩ := hrel
    have HN := Lib.hid hno
    clear hno
    by_cases hlt : i < s.size
    · have hz : (i : Int) < (s.size : Int) := by omega
      have hat := byte_at s i hlt
      have HA := Lib.hid hat
      clear hat
      have hx256 : ((s[i]'hlt).toNat : Int) < 256 := by have := (s[i]'hlt).toNat_lt; omega
      have HL := Lib.hid (fun w => letter_any (s[i]'hlt) w)
      rcases aln_of (s[i]'hlt) with ⟨h1, h2⟩ | ⟨h1, h2, h3, h4⟩ | ⟨h1, h2, h3⟩
      · rw [h1] at HL
        have H2 := Lib.hid h2
        clear h1 h2
        go_wp2_with (go_at_call 36; (with_reducible refine (HL.out _).mono ?_); rintro e w1 ⟨rfl, rfl⟩; dsimp only)
        go_roundw
        case rel =>
          refine ⟨i + 1, by go_num, by omega, fun j b h1 h2 => ?_, trivial⟩
          by_cases hji : j < i
          · exact HN.out j b hji h2
          · obtain rfl : j = i := by omega
            rw [HA.out] at h2
            obtain rfl := Option.some.inj h2
            exact H2.out
        case measure => show s.size - ((i : Int) + 1).toNat < s.size - (i : Int).toNat; omega
      · rw [h1] at HL
        have H2 := Lib.hid h2
        have h3z : ¬ ((s[i]'hlt).toNat : Int) < 48 := by omega
        have h4z : ¬ (57 : Int) < ((s[i]'hlt).toNat : Int) := by omega
        clear h1 h2 h3 h4
        go_wp2_with (go_at_call 36; (with_reducible refine (HL.out _).mono ?_); rintro e w1 ⟨rfl, rfl⟩; dsimp only)
        go_roundw
        case rel =>
          refine ⟨i + 1, by go_num, by omega, fun j b h1 h2 => ?_, trivial⟩
          by_cases hji : j < i
          · exact HN.out j b hji h2
          · obtain rfl : j = i := by omega
            rw [HA.out] at h2
            obtain rfl := Option.some.inj h2
            exact H2.out
        case measure => show s.size - ((i : Int) + 1).toNat < s.size - (i : Int).toNat; omega
      · rw [h1] at HL
        have hfin : Hid (simB s = false) := by
          refine Lib.hid ?_
          have hno : ¬ s.data.toList.all alnB = true := fun h => by
            have := List.all_eq_true.1 h _ (List.mem_of_getElem? HA.out)
            rw [h2] at this
            cases this
          unfold simB
          rw [Bool.eq_false_iff.2 hno]
          rfl
        clear h1 h2
        by_cases e0 : ((s[i]'hlt).toNat : Int) < 48
        · clear h3
          go_wp2_with (go_at_call 36; (with_reducible refine (HL.out _).mono ?_); rintro e w1 ⟨rfl, rfl⟩; dsimp only)
          go_ret
          exact ⟨ret_bool hfin.out.symm, rfl⟩
        · have e9 : (57 : Int) < ((s[i]'hlt).toNat : Int) := by omega
          clear h3
          go_wp2_with (go_at_call 36; (with_reducible refine (HL.out _).mono ?_); rintro e w1 ⟨rfl, rfl⟩; dsimp only)
          go_ret
          exact ⟨ret_bool hfin.out.symm, rfl⟩
    · have hz : ¬ (i : Int) < (s.size : Int) := by omega
      have hall : s.data.toList.all alnB = true := List.all_eq_true.2 fun b hb => by
        obtain ⟨j, hj⟩ := List.getElem?_of_mem hb
        have := (List.getElem?_eq_some_iff.1 hj).1
        rw [← Lib.size_eq] at this
        exact HN.out j b (by omega) hj
      by_cases h0 : 0 < s.size
      · have h0z : (0 : Int) < (s.size : Int) := by omega
        have hfin : Hid (simB s = true) := Lib.hid (by unfold simB; rw [hall, decide_eq_true h0]; rfl)
        clear hall
        go_wp2
        go_ret
        exact ⟨ret_bool hfin.out.symm, rfl⟩
      · have h0z : ¬ (0 : Int) < (s.size : Int) := by omega
        have hfin : Hid (simB s = false) := Lib.hid (by unfold simB; rw [hall, decide_eq_false h0]; rfl)
        clear hall
        go_wp2
        go_ret
        exact ⟨ret_bool hfin.out.symm, rfl⟩
/-- laws.few of a row that was just laid -/
theorem few_row (l : List ByteArray) (n : Nat) (hn : l.length = n) (w : World) (hl : n ≤ 1000) (hs : n + sumSz l ≤ 4611686018427387904) (b : Bool) (hb : decide (n + sumSz l ≤ 400) = b) :
    Calls Tryd.prog 11 #[.slice (some ⟨w.heap.size, 0, none⟩) n n] (w.alloc (.cells (l.map Value.string).toArray 9)) fun e w' => e = .returned (.bool b) ∧ w.alloc (.cells (l.map Value.string).toArray 9) = w' :=
  few_any w.heap.size n n l hn _ (rowS_new w l _) hl hs b hb
theorem simB_bare {p : ByteArray} (h : simB p = true) : p.data.toList ≠ [] ∧ ∀ c ∈ p.data.toList, alnB c = true := by
  unfold simB at h
  rw [Bool.and_eq_true] at h
  refine ⟨fun e => ?_, List.all_eq_true.1 h.1⟩
  have := of_decide_eq_true h.2
  rw [Lib.size_eq, e] at this
  exact absurd this (by decide)
theorem aln_asc {c : UInt8} (h : alnB c = true) : c.toNat < 128 ∧ c.toNat ≠ 92 ∧ c.toNat ≠ 45 ∧ c.toNat ≠ 94 := by
  have := byte_all (p := fun c => !(alnB c) || (decide (c.toNat < 128) && !(c.toNat == 92) && !(c.toNat == 45) && !(c.toNat == 94))) (by decide +kernel) c
  rw [h] at this
  simpa [and_assoc] using this
end Go.Proofs.YtdgaehkfdaacjaaDoor
