/- The walks of laws.size and laws.few. -/
import Derived.Test.YtdgaehkfdaacjaaDoorSettled
set_option linter.unusedVariables false
namespace Go.Proofs.YtdgaehkfdaacjaaDoor
open Go.RowKit Plain

def sumSz (l : List ByteArray) : Nat := (l.map ByteArray.size).sum
theorem sumSz_take (l : List ByteArray) (i : Nat) (x : ByteArray) (h : l[i]? = some x) : sumSz (l.take (i + 1)) = sumSz (l.take i) + x.size := by
  unfold sumSz
  rw [List.take_add_one, h]
  simp
theorem sumSz_le (l : List ByteArray) (i : Nat) : sumSz (l.take i) ≤ sumSz l := by
  unfold sumSz
  conv => rhs; rw [← List.take_append_drop i l]
  rw [List.map_append, List.sum_append]
  omega
set_option maxHeartbeats 1000000 in
set_option maxRecDepth 100000 in
theorem size_any (g n cap : Nat) (l : List ByteArray) (hn : l.length = n) (w : World) (hr : RowS g l w) (hl : n ≤ 1000) (S : Nat) (hS : n + sumSz l = S) (hs : S ≤ 4611686018427387904) :
    Calls Tryd.prog 24 #[.slice (some ⟨g, 0, none⟩) n cap] w fun e w' => e = .returned (.int .i64 (S : Int)) ∧ w = w' := by
  have HN := Lib.hid hn
  have HSS := Lib.hid hS
  clear hn hS
  go_enter Tryd.func24, Tryd.ntmps24
  go_wp2
  go_loopg [3, 10] n (fun c sv iv wr => ∃ (i T : Nat), iv = .int .i64 i ∧ i ≤ n ∧ c = n - i ∧ sv = .int .i64 T ∧ Hid (T = n + sumSz (l.take i)) ∧ T ≤ S ∧ w = wr)
  case atStart => exact ⟨0, n, rfl, Nat.zero_le _, rfl, rfl, Lib.hid (by simp [sumSz]), by have := HSS.out; omega, rfl⟩
  case round =>
    obtain ⟨i, T, rfl, hi, rfl, rfl, HT, hTS, rfl⟩ := hrel
    by_cases hin : i < n
    · have hiz : (i : Int) < (n : Int) := by omega
      have hil : i < l.length := by rw [HN.out]; exact hin
      obtain ⟨x, hx⟩ : ∃ x, l[i]? = some x := ⟨_, List.getElem?_eq_getElem hil⟩
      have hcell := hr i x hx
      have hst := sumSz_take l i x hx
      have hle := sumSz_le l (i + 1)
      have hbd : T + x.size ≤ S := by have := HT.out; have := HSS.out; omega
      have HST := Lib.hid (show T + x.size = n + sumSz (l.take (i + 1)) by have := HT.out; omega)
      have hbz : (T : Int) + (x.size : Int) ≤ 4611686018427387904 := by omega
      have HR := Lib.hid hr
      clear hx hst hle hil
      go_wp2
      go_roundg (n - (i + 1))
      case measure => omega
      case rel => exact ⟨i + 1, T + x.size, by go_num, by omega, rfl, by first | go_num | exact congrArg (Value.int .i64) (by omega), HST, hbd, rfl⟩
    · have hiz : ¬ (i : Int) < (n : Int) := by omega
      have hTe : T = S := by
        have h1 := HT.out
        have h2 := HSS.out
        have h3 : l.take i = l := List.take_of_length_le (by rw [HN.out]; omega)
        rw [h3] at h1
        omega
      subst hTe
      go_wp2
      go_ret
      exact ⟨rfl, rfl⟩
set_option maxRecDepth 100000 in
theorem few_any (g n cap : Nat) (l : List ByteArray) (hn : l.length = n) (w : World) (hr : RowS g l w) (hl : n ≤ 1000) (hs : n + sumSz l ≤ 4611686018427387904) (b : Bool) (hb : decide (n + sumSz l ≤ 400) = b) :
    Calls Tryd.prog 11 #[.slice (some ⟨g, 0, none⟩) n cap] w fun e w' => e = .returned (.bool b) ∧ w = w' := by
  obtain ⟨S, hS⟩ : ∃ S, n + sumSz l = S := ⟨_, rfl⟩
  have HC := Lib.hid (size_any g n cap l hn w hr hl S hS (by omega))
  rw [hS] at hb
  clear hr hn hS hs
  by_cases h : S ≤ 400
  · obtain rfl : b = true := by rw [← hb]; simp [h]
    have hz : (S : Int) ≤ 400 := by omega
    clear hb
    go_enter Tryd.func11, Tryd.ntmps11
    go_wp2_with (go_at_call 24; (with_reducible refine HC.out.mono ?_); rintro e w1 ⟨rfl, rfl⟩; dsimp only)
    go_wp2
    go_ret
    exact ⟨rfl, rfl⟩
  · obtain rfl : b = false := by rw [← hb]; simp [h]
    have hz : ¬ (S : Int) ≤ 400 := by omega
    clear hb
    go_enter Tryd.func11, Tryd.ntmps11
    go_wp2_with (go_at_call 24; (with_reducible refine HC.out.mono ?_); rintro e w1 ⟨rfl, rfl⟩; dsimp only)
    go_wp2
    go_ret
    exact ⟨rfl, rfl⟩
end Go.Proofs.YtdgaehkfdaacjaaDoor
