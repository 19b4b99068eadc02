/- Rows of texts that a caller gives; laws.zzFits1 and laws.size on them. -/
import Derived.Test.YtgmhigjhooihdaaGreatDoorZzIt
import Derived.LoopTactic
set_option linter.unusedVariables false
namespace Go.Proofs.YtgmhigjhooihdaaGreatDoor
open Go.RowKit Plain

def sumSz (l : List ByteArray) : Nat := (l.map ByteArray.size).sum
theorem sumSz_take (l : List ByteArray) (i : Nat) (x : ByteArray) (h : l[i]? = some x) : sumSz (l.take (i + 1)) = sumSz (l.take i) + x.size := by
  unfold sumSz
  rw [List.take_add_one, h]
  simp
theorem sumSz_le (l : List ByteArray) (i : Nat) : sumSz (l.take i) ≤ sumSz l := by
  unfold sumSz
  conv => rhs; rw [← List.take_append_drop i l]
  rw [List.map_append, List.sum_append]
  omega
/-- the texts 'l' stand at 'A' -/
def RowA (A : Option Addr) (l : List ByteArray) (w : World) : Prop := ∀ k x, l[k]? = some x → ∃ ad, A = some ad ∧ w.cell? (ad.add k) = some (.string x)
theorem cell_lt {w : World} {p : Addr} {v : Value} (h : w.cell? p = some v) : p.block < w.heap.size := by
  unfold World.cell? at h
  cases hb : w.heap[p.block]? with
  | none => rw [hb] at h; cases h
  | some o => exact (Array.getElem?_eq_some_iff.1 hb).1
theorem RowA.below {A : Option Addr} {l : List ByteArray} {w w' : World} (h : RowA A l w) (hb : Below w.heap.size w w') : RowA A l w' := by
  intro k x hx
  obtain ⟨ad, hA, hc⟩ := h k x hx
  exact ⟨ad, hA, (hb.cell (cell_lt hc)).trans hc⟩
theorem rowA_nil (A : Option Addr) (w : World) : RowA A [] w := fun k x hx => by simp at hx
theorem rowA_addr {w : World} {ad : Addr} {l : List ByteArray} (h : ∀ k x, l[k]? = some x → w.cell? (ad.add k) = some (.string x)) : RowA (some ad) l w := fun k x hx => ⟨ad, rfl, h k x hx⟩
theorem rowA_own {b : Nat} {lv : Value} {n : Nat} {l : List ByteArray} {w : World} (h : w.ownsRow b 9 1 lv n (l.map Value.string)) (hn : l.length = n) : ∃ A cap, lv = .slice A n cap ∧ RowA A l w := by
  rcases h.2 with ⟨hv, h0⟩ | ⟨g, cap, cur, hv, _⟩
  · refine ⟨none, 0, by rw [hv, h0], ?_⟩
    rw [List.eq_nil_of_length_eq_zero (hn.trans h0)]
    exact rowA_nil _ _
  · subst hv
    refine ⟨_, _, rfl, rowA_addr fun k x hx => ?_⟩
    have hk : k < n := by rw [← hn]; exact (List.getElem?_eq_some_iff.1 hx).1
    rw [add_at, Nat.zero_add, h.cellAt k (by omega), List.getElem?_map, hx]
    rfl
def fitsR (l : List ByteArray) : Bool := l.all fun x => decide (x.size ≤ 2147483647)
set_option maxHeartbeats 1000000 in
set_option maxRecDepth 100000 in
theorem fits_any (A : Option Addr) (n cap : Nat) (l : List ByteArray) (hn : l.length = n) (w : World) (hr : RowA A l w) (hc : n ≤ 9223372036854775807) (b : Bool) (hb : (decide (n ≤ 2147483647) && fitsR l) = b) :
    Calls Tryz.prog 70 #[.slice A n cap] w fun e w' => e = .returned (.bool b) ∧ w = w' := by
  by_cases hz : 2147483647 < n
  · have hnz : (2147483647 : Int) < (n : Int) := by omega
    obtain rfl : b = false := by rw [← hb, decide_eq_false (by omega)]; rfl
    clear hb hr hn
    go_enter Tryz.func70, Tryz.ntmps70
    go_wp2
    go_ret
    exact ⟨rfl, rfl⟩
  have hnz : ¬ (2147483647 : Int) < (n : Int) := by omega
  have HB : Hid (fitsR l = b) := Lib.hid (by rw [← hb, decide_eq_true (by omega)]; rfl)
  have HN := Lib.hid hn
  have HR := Lib.hid hr
  clear hb hr hn
  go_enter Tryz.func70, Tryz.ntmps70
  go_wp2
  go_loopg [10] n (fun c iv wr => ∃ i : Nat, iv = .int .i64 i ∧ i ≤ n ∧ c = n - i ∧ Hid (fitsR (l.drop i) = b) ∧ w = wr)
  case atStart => exact ⟨0, rfl, Nat.zero_le _, rfl, HB, rfl⟩
  case round =>
    obtain ⟨i, rfl, hi, rfl, HI, rfl⟩ := hrel
    by_cases hin : i < n
    · have hiz : (i : Int) < (n : Int) := by omega
      have hil : i < l.length := by rw [HN.out]; exact hin
      obtain ⟨x, hx⟩ : ∃ x, l[i]? = some x := ⟨_, List.getElem?_eq_getElem hil⟩
      obtain ⟨ad, rfl, hcell⟩ := HR.out i x hx
      have HD : Hid (l.drop i = x :: l.drop (i + 1)) := Lib.hid (by
        obtain ⟨h1, h2⟩ := List.getElem?_eq_some_iff.1 hx
        rw [← h2]
        exact List.drop_eq_getElem_cons h1)
      clear hx hil
      by_cases hxz : 2147483647 < x.size
      · have hxi : (2147483647 : Int) < (x.size : Int) := by omega
        have hE := HI.out
        rw [HD.out] at hE
        obtain rfl : b = false := by rw [← hE]; unfold fitsR; rw [List.all_cons, decide_eq_false (by omega)]; rfl
        clear hE hxz
        go_wp2
        go_ret
        exact ⟨rfl, rfl⟩
      · have hxi : ¬ (2147483647 : Int) < (x.size : Int) := by omega
        have HI2 : Hid (fitsR (l.drop (i + 1)) = b) := Lib.hid (by
          have hE := HI.out
          rw [HD.out] at hE
          rw [← hE]
          unfold fitsR
          rw [List.all_cons, decide_eq_true (show x.size ≤ 2147483647 by omega), Bool.true_and])
        clear hxz
        go_wp2
        go_roundg (n - (i + 1))
        case measure => omega
        case rel => exact ⟨i + 1, by go_num, by omega, rfl, HI2, rfl⟩
    · have hiz : ¬ (i : Int) < (n : Int) := by omega
      obtain rfl : b = true := by
        have hE := HI.out
        rw [List.drop_eq_nil_of_le (by rw [HN.out]; omega)] at hE
        exact hE.symm
      go_wp2
      go_ret
      exact ⟨rfl, rfl⟩
theorem fitsR_sum : ∀ l : List ByteArray, fitsR l = true → sumSz l ≤ l.length * 2147483647
  | [], _ => by simp [sumSz]
  | x :: l, h => by
    unfold fitsR at h
    rw [List.all_cons, Bool.and_eq_true] at h
    have h1 := of_decide_eq_true h.1
    have h2 := fitsR_sum l h.2
    unfold sumSz at h2 ⊢
    rw [List.map_cons, List.sum_cons, List.length_cons, Nat.succ_mul]
    omega
theorem sumSz_mem {l : List ByteArray} {i : Nat} {x : ByteArray} (h : l[i]? = some x) : x.size ≤ sumSz l := by
  have h1 := sumSz_take l i x h
  have h2 := sumSz_le l (i + 1)
  omega
set_option maxHeartbeats 1000000 in
set_option maxRecDepth 100000 in
theorem sizeA_any (A : Option Addr) (n cap : Nat) (l : List ByteArray) (hn : l.length = n) (w : World) (hr : RowA A l w) (S : Nat) (hS : n + sumSz l = S) (hs : S ≤ 4611686018427387904) :
    Calls Tryz.prog 35 #[.slice A n cap] w fun e w' => e = .returned (.int .i64 (S : Int)) ∧ w = w' := by
  have hnS : n ≤ S := by omega
  have HN := Lib.hid hn
  have HSS := Lib.hid hS
  have HR := Lib.hid hr
  clear hn hS hr
  go_enter Tryz.func35, Tryz.ntmps35
  go_wp2
  go_loopg [3, 10] n (fun c sv iv wr => ∃ (i T : Nat), iv = .int .i64 i ∧ i ≤ n ∧ c = n - i ∧ sv = .int .i64 T ∧ Hid (T = n + sumSz (l.take i)) ∧ T ≤ S ∧ w = wr)
  case atStart => exact ⟨0, n, rfl, Nat.zero_le _, rfl, rfl, Lib.hid (by simp [sumSz]), hnS, rfl⟩
  case round =>
    obtain ⟨i, T, rfl, hi, rfl, rfl, HT, hTS, rfl⟩ := hrel
    by_cases hin : i < n
    · have hiz : (i : Int) < (n : Int) := by omega
      have hil : i < l.length := by rw [HN.out]; exact hin
      obtain ⟨x, hx⟩ : ∃ x, l[i]? = some x := ⟨_, List.getElem?_eq_getElem hil⟩
      obtain ⟨ad, rfl, hcell⟩ := HR.out i x hx
      have hst := sumSz_take l i x hx
      have hle := sumSz_le l (i + 1)
      have hbd : T + x.size ≤ S := by have := HT.out; have := HSS.out; omega
      have HST := Lib.hid (show T + x.size = n + sumSz (l.take (i + 1)) by have := HT.out; omega)
      have hbz : (T : Int) + (x.size : Int) ≤ 4611686018427387904 := by omega
      clear hx hst hle hil
      go_wp2
      go_roundg (n - (i + 1))
      case measure => omega
      case rel => exact ⟨i + 1, T + x.size, by go_num, by omega, rfl, by first | go_num | exact congrArg (Value.int .i64) (by omega), HST, hbd, rfl⟩
    · have hiz : ¬ (i : Int) < (n : Int) := by omega
      have hTe : T = S := by
        have h1 := HT.out
        have h2 := HSS.out
        have h3 : l.take i = l := List.take_of_length_le (by rw [HN.out]; omega)
        rw [h3] at h1
        omega
      subst hTe
      go_wp2
      go_ret
      exact ⟨rfl, rfl⟩
end Go.Proofs.YtgmhigjhooihdaaGreatDoor
