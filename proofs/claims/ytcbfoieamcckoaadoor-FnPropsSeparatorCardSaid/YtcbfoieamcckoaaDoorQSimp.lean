/- laws.letter, simple, size, few. -/
import Derived.Test.YtcbfoieamcckoaaDoorDec
import Derived.WalkKit
import Derived.LoopTactic
import Derived.Deep.LoopGhost
set_option linter.unusedVariables false
namespace Go.Proofs.YtcbfoieamcckoaaDoor
open Go.RowKit Plain

theorem byte_all {p : UInt8 → Bool} (h : ((List.range 256).all fun n => p (UInt8.ofNat n)) = true) (b : UInt8) : p b = true := by
  have := List.all_eq_true.1 h b.toNat (List.mem_range.2 b.toNat_lt)
  simpa using this
def capB (b : UInt8) : Bool := decide (65 ≤ b.toNat) && decide (b.toNat ≤ 90)
def lowB (b : UInt8) : Bool := decide (97 ≤ b.toNat) && decide (b.toNat ≤ 122)
def numB (b : UInt8) : Bool := decide (48 ≤ b.toNat) && decide (b.toNat ≤ 57)
theorem byte_at (s : ByteArray) (i : Nat) (h : i < s.size) : s.data.toList[i]? = some (s[i]'h) := by
  rw [Array.getElem?_toList, Array.getElem?_eq_getElem (by exact h)]
  rfl

/-- block 'g' is a row of texts -/
def RowS (g : Nat) (l : List ByteArray) (w : World) : Prop := ∀ k x, l[k]? = some x → w.cell? ⟨g, k, none⟩ = some (.string x)
theorem RowS.keep {g : Nat} {l : List ByteArray} {w w' : World} (h : RowS g l w) (e : w'.heap[g]? = w.heap[g]?) : RowS g l w' := by
  intro k x hx
  have := h k x hx
  unfold World.cell? at this ⊢
  rwa [e]
theorem rowS_new (w : World) (l : List ByteArray) (t : TypeId) : RowS w.heap.size l (w.alloc (.cells (l.map Value.string).toArray t)) := by
  intro k x hx
  rw [World.cell?_alloc_new]
  simp [hx]
def sumSz (l : List ByteArray) : Nat := (l.map ByteArray.size).sum
theorem sumSz_take (l : List ByteArray) (i : Nat) (x : ByteArray) (h : l[i]? = some x) : sumSz (l.take (i + 1)) = sumSz (l.take i) + x.size := by
  unfold sumSz
  rw [List.take_add_one, h]
  simp
theorem sumSz_le (l : List ByteArray) (i : Nat) : sumSz (l.take i) ≤ sumSz l := by
  unfold sumSz
  conv => rhs; rw [← List.take_append_drop i l]
  rw [List.map_append, List.sum_append]
  omega
set_option maxHeartbeats 1000000 in
set_option maxRecDepth 100000 in
theorem size_any (g n cap : Nat) (l : List ByteArray) (hn : l.length = n) (w : World) (hr : RowS g l w) (hl : n ≤ 1000) (S : Nat) (hS : n + sumSz l = S) (hs : S ≤ 4611686018427387904) :
    Calls Tryd.prog 14 #[.slice (some ⟨g, 0, none⟩) n cap] w fun e w' => e = .returned (.int .i64 (S : Int)) ∧ w = w' := by
  have HN := Lib.hid hn
  have HSS := Lib.hid hS
  clear hn hS
  go_enter Tryd.func14, Tryd.ntmps14
  go_wp2
  go_loopg [3, 10] n (fun c sv iv wr => ∃ (i T : Nat), iv = .int .i64 i ∧ i ≤ n ∧ c = n - i ∧ sv = .int .i64 T ∧ Hid (T = n + sumSz (l.take i)) ∧ T ≤ S ∧ w = wr)
  case atStart => exact ⟨0, n, rfl, Nat.zero_le _, rfl, rfl, Lib.hid (by simp [sumSz]), by have := HSS.out; omega, rfl⟩
  case round =>
    obtain ⟨i, T, rfl, hi, rfl, rfl, HT, hTS, rfl⟩ := hrel
    by_cases hin : i < n
    · have hiz : (i : Int) < (n : Int) := by omega
      have hil : i < l.length := by rw [HN.out]; exact hin
      obtain ⟨x, hx⟩ : ∃ x, l[i]? = some x := ⟨_, List.getElem?_eq_getElem hil⟩
      have hcell := hr i x hx
      have hst := sumSz_take l i x hx
      have hle := sumSz_le l (i + 1)
      have hbd : T + x.size ≤ S := by have := HT.out; have := HSS.out; omega
      have HST := Lib.hid (show T + x.size = n + sumSz (l.take (i + 1)) by have := HT.out; omega)
      have hbz : (T : Int) + (x.size : Int) ≤ 4611686018427387904 := by omega
      have HR := Lib.hid hr
      clear hx hst hle hil
      go_wp2
      go_roundg (n - (i + 1))
      case measure => omega
      case rel => exact ⟨i + 1, T + x.size, by go_num, by omega, rfl, by first | go_num | exact congrArg (Value.int .i64) (by omega), HST, hbd, rfl⟩
    · have hiz : ¬ (i : Int) < (n : Int) := by omega
      have hTe : T = S := by
        have h1 := HT.out
        have h2 := HSS.out
        have h3 : l.take i = l := List.take_of_length_le (by rw [HN.out]; omega)
        rw [h3] at h1
        omega
      subst hTe
      go_wp2
      go_ret
      exact ⟨rfl, rfl⟩
set_option maxRecDepth 100000 in
theorem few_any (g n cap : Nat) (l : List ByteArray) (hn : l.length = n) (w : World) (hr : RowS g l w) (hl : n ≤ 1000) (hs : n + sumSz l ≤ 4611686018427387904) (b : Bool) (hb : decide (n + sumSz l ≤ 400) = b) :
    Calls Tryd.prog 7 #[.slice (some ⟨g, 0, none⟩) n cap] w fun e w' => e = .returned (.bool b) ∧ w = w' := by
  obtain ⟨S, hS⟩ : ∃ S, n + sumSz l = S := ⟨_, rfl⟩
  have HC := Lib.hid (size_any g n cap l hn w hr hl S hS (by omega))
  rw [hS] at hb
  clear hr hn hS hs
  by_cases h : S ≤ 400
  · obtain rfl : b = true := by rw [← hb]; simp [h]
    have hz : (S : Int) ≤ 400 := by omega
    clear hb
    go_enter Tryd.func7, Tryd.ntmps7
    go_wp2_with (go_at_call 14; (with_reducible refine HC.out.mono ?_); rintro e w1 ⟨rfl, rfl⟩; dsimp only)
    go_wp2
    go_ret
    exact ⟨rfl, rfl⟩
  · obtain rfl : b = false := by rw [← hb]; simp [h]
    have hz : ¬ (S : Int) ≤ 400 := by omega
    clear hb
    go_enter Tryd.func7, Tryd.ntmps7
    go_wp2_with (go_at_call 14; (with_reducible refine HC.out.mono ?_); rintro e w1 ⟨rfl, rfl⟩; dsimp only)
    go_wp2
    go_ret
    exact ⟨rfl, rfl⟩

def alnB (b : UInt8) : Bool := capB b || lowB b || numB b
def simB (p : ByteArray) : Bool := p.data.toList.all alnB && decide (0 < p.size)
theorem letter_any (x : UInt8) (w : World) :
    Calls Tryd.prog 13 #[.int .u8 (x.toNat : Int)] w fun e w' => e = .returned (.bool (capB x || lowB x)) ∧ w' = w := by
  have hx := x.toNat_lt
  obtain ⟨L, hL⟩ : ∃ L, (capB x || lowB x) = L := ⟨_, rfl⟩
  rw [hL]
  unfold capB lowB at hL
  generalize x.toNat = c at hL hx ⊢
  by_cases h1 : (97 : Int) ≤ (c : Int)
  · by_cases h2 : (c : Int) ≤ 122
    · obtain rfl : L = true := by rw [← hL]; simp; omega
      clear hL
      go_enter Tryd.func13, Tryd.ntmps13
      go_wp2
      go_ret
      exact ⟨rfl, rfl⟩
    · obtain rfl : L = false := by rw [← hL]; simp; omega
      have h3 : ¬ (c : Int) ≤ 90 := by omega
      have h4 : (65 : Int) ≤ (c : Int) := by omega
      clear hL
      go_enter Tryd.func13, Tryd.ntmps13
      go_wp2
      go_ret
      exact ⟨rfl, rfl⟩
  · by_cases h2 : (65 : Int) ≤ (c : Int)
    · by_cases h3 : (c : Int) ≤ 90
      · obtain rfl : L = true := by rw [← hL]; simp; omega
        clear hL
        go_enter Tryd.func13, Tryd.ntmps13
        go_wp2
        go_ret
        exact ⟨rfl, rfl⟩
      · obtain rfl : L = false := by rw [← hL]; simp; omega
        clear hL
        go_enter Tryd.func13, Tryd.ntmps13
        go_wp2
        go_ret
        exact ⟨rfl, rfl⟩
    · obtain rfl : L = false := by rw [← hL]; simp; omega
      clear hL
      go_enter Tryd.func13, Tryd.ntmps13
      go_wp2
      go_ret
      exact ⟨rfl, rfl⟩

theorem aln_of (x : UInt8) : (capB x || lowB x) = true ∧ alnB x = true ∨ (capB x || lowB x) = false ∧ alnB x = true ∧ (48 : Int) ≤ x.toNat ∧ (x.toNat : Int) ≤ 57 ∨ (capB x || lowB x) = false ∧ alnB x = false ∧ ((x.toNat : Int) < 48 ∨ (57 : Int) < x.toNat) := by
  unfold alnB capB lowB numB
  generalize x.toNat = c
  simp
  omega

set_option maxHeartbeats 2000000 in
set_option maxRecDepth 100000 in
theorem simple_any (s : ByteArray) (w : World) (hs : s.size ≤ 140737488355328) :
    Calls Tryd.prog 6 #[.string s] w fun e w' => e = .returned (.bool (simB s)) ∧ w' = w := by
  go_enter Tryd.func6, Tryd.ntmps6
  go_wp2
  go_loopw [3] (fun iv wr => ∃ (i : Nat), iv = .int .i64 i ∧ i ≤ s.size ∧ (∀ j b, j < i → s.data.toList[j]? = some b → alnB b = true) ∧ wr = w) (fun iv _ => match iv with | .int _ i => s.size - i.toNat | _ => 0)
  case atStart => exact ⟨0, rfl, Nat.zero_le _, fun j b h => by omega, rfl⟩
  case round =>
    obtain ⟨i, rfl, his, hno, rfl⟩ := hrel
    have HN := Lib.hid hno
    clear hno
    by_cases hlt : i < s.size
    · have hz : (i : Int) < (s.size : Int) := by omega
      have hat := byte_at s i hlt
      have HA := Lib.hid hat
      clear hat
      have hx256 : ((s[i]'hlt).toNat : Int) < 256 := by have := (s[i]'hlt).toNat_lt; omega
      have HL := Lib.hid (fun w => letter_any (s[i]'hlt) w)
      rcases aln_of (s[i]'hlt) with ⟨h1, h2⟩ | ⟨h1, h2, h3, h4⟩ | ⟨h1, h2, h3⟩
      · rw [h1] at HL
        have H2 := Lib.hid h2
        clear h1 h2
        go_wp2_with (go_at_call 13; (with_reducible refine (HL.out _).mono ?_); rintro e w1 ⟨rfl, rfl⟩; dsimp only)
        go_roundw
        case rel =>
          refine ⟨i + 1, by go_num, by omega, fun j b h1 h2 => ?_, trivial⟩
          by_cases hji : j < i
          · exact HN.out j b hji h2
          · obtain rfl : j = i := by omega
            rw [HA.out] at h2
            obtain rfl := Option.some.inj h2
            exact H2.out
        case measure => show s.size - ((i : Int) + 1).toNat < s.size - (i : Int).toNat; omega
      · rw [h1] at HL
        have H2 := Lib.hid h2
        have h3z : ¬ ((s[i]'hlt).toNat : Int) < 48 := by omega
        have h4z : ¬ (57 : Int) < ((s[i]'hlt).toNat : Int) := by omega
        clear h1 h2 h3 h4
        go_wp2_with (go_at_call 13; (with_reducible refine (HL.out _).mono ?_); rintro e w1 ⟨rfl, rfl⟩; dsimp only)
        go_roundw
        case rel =>
          refine ⟨i + 1, by go_num, by omega, fun j b h1 h2 => ?_, trivial⟩
          by_cases hji : j < i
          · exact HN.out j b hji h2
          · obtain rfl : j = i := by omega
            rw [HA.out] at h2
            obtain rfl := Option.some.inj h2
            exact H2.out
        case measure => show s.size - ((i : Int) + 1).toNat < s.size - (i : Int).toNat; omega
      · rw [h1] at HL
        have hfin : Hid (simB s = false) := by
          refine Lib.hid ?_
          have hno : ¬ s.data.toList.all alnB = true := fun h => by
            have := List.all_eq_true.1 h _ (List.mem_of_getElem? HA.out)
            rw [h2] at this
            cases this
          unfold simB
          rw [Bool.eq_false_iff.2 hno]
          rfl
        clear h1 h2
        by_cases e0 : ((s[i]'hlt).toNat : Int) < 48
        · clear h3
          go_wp2_with (go_at_call 13; (with_reducible refine (HL.out _).mono ?_); rintro e w1 ⟨rfl, rfl⟩; dsimp only)
          go_ret
          exact ⟨ret_bool hfin.out.symm, rfl⟩
        · have e9 : (57 : Int) < ((s[i]'hlt).toNat : Int) := by omega
          clear h3
          go_wp2_with (go_at_call 13; (with_reducible refine (HL.out _).mono ?_); rintro e w1 ⟨rfl, rfl⟩; dsimp only)
          go_ret
          exact ⟨ret_bool hfin.out.symm, rfl⟩
    · have hz : ¬ (i : Int) < (s.size : Int) := by omega
      have hall : s.data.toList.all alnB = true := List.all_eq_true.2 fun b hb => by
        obtain ⟨j, hj⟩ := List.getElem?_of_mem hb
        have := (List.getElem?_eq_some_iff.1 hj).1
        rw [← Lib.size_eq] at this
        exact HN.out j b (by omega) hj
      by_cases h0 : 0 < s.size
      · have h0z : (0 : Int) < (s.size : Int) := by omega
        have hfin : Hid (simB s = true) := Lib.hid (by unfold simB; rw [hall, decide_eq_true h0]; rfl)
        clear hall
        go_wp2
        go_ret
        exact ⟨ret_bool hfin.out.symm, rfl⟩
      · have h0z : ¬ (0 : Int) < (s.size : Int) := by omega
        have hfin : Hid (simB s = false) := Lib.hid (by unfold simB; rw [hall, decide_eq_false h0]; rfl)
        clear hall
        go_wp2
        go_ret
        exact ⟨ret_bool hfin.out.symm, rfl⟩
/-- laws.few of a row that was just laid -/
theorem few_row (l : List ByteArray) (n : Nat) (hn : l.length = n) (w : World) (hl : n ≤ 1000) (hs : n + sumSz l ≤ 4611686018427387904) (b : Bool) (hb : decide (n + sumSz l ≤ 400) = b) :
    Calls Tryd.prog 7 #[.slice (some ⟨w.heap.size, 0, none⟩) n n] (w.alloc (.cells (l.map Value.string).toArray 9)) fun e w' => e = .returned (.bool b) ∧ w.alloc (.cells (l.map Value.string).toArray 9) = w' :=
  few_any w.heap.size n n l hn _ (rowS_new w l _) hl hs b hb
theorem simB_bare {p : ByteArray} (h : simB p = true) : p.data.toList ≠ [] ∧ ∀ c ∈ p.data.toList, alnB c = true := by
  unfold simB at h
  rw [Bool.and_eq_true] at h
  refine ⟨fun e => ?_, List.all_eq_true.1 h.1⟩
  have := of_decide_eq_true h.2
  rw [Lib.size_eq, e] at this
  exact absurd this (by decide)
theorem aln_asc {c : UInt8} (h : alnB c = true) : c.toNat < 128 ∧ c.toNat ≠ 92 ∧ c.toNat ≠ 45 ∧ c.toNat ≠ 94 := by
  have := byte_all (p := fun c => !(alnB c) || (decide (c.toNat < 128) && !(c.toNat == 92) && !(c.toNat == 45) && !(c.toNat == 94))) (by decide +kernel) c
  rw [h] at this
  simpa [and_assoc] using this
end Go.Proofs.YtcbfoieamcckoaaDoor
