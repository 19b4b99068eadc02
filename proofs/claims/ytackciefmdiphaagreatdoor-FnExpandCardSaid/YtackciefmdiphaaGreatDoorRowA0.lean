/- Rows of texts that a caller gives; laws.zzFits1 and laws.size on them. -/
import Derived.Test.YtackciefmdiphaaGreatDoorLoadB
import Derived.LoopTactic
import Derived.Test.YtackciefmdiphaaGreatDoorPlain
import Derived.Test.YtackciefmdiphaaGreatDoorProg
import Derived.WalkKit
import Derived.Lib.Hide
import Derived.Deep.OwnRows
import Derived.Deep.LoopGhost
import Derived.Laws.IdiomStrings
set_option linter.unusedVariables false
namespace Go.Proofs.YtackciefmdiphaaGreatDoor
open Go.RowKit Plain

def sumSz (l : List ByteArray) : Nat := (l.map ByteArray.size).sum
theorem sumSz_take (l : List ByteArray) (i : Nat) (x : ByteArray) (h : l[i]? = some x) : sumSz (l.take (i + 1)) = sumSz (l.take i) + x.size := by
  unfold sumSz
  rw [List.take_add_one, h]
  simp
theorem sumSz_le (l : List ByteArray) (i : Nat) : sumSz (l.take i) ≤ sumSz l := by
  unfold sumSz
  conv => rhs; rw [← List.take_append_drop i l]
  rw [List.map_append, List.sum_append]
  omega
/-- the texts 'l' stand at 'A' -/
def RowA (A : Option Addr) (l : List ByteArray) (w : World) : Prop := ∀ k x, l[k]? = some x → ∃ ad, A = some ad ∧ w.cell? (ad.add k) = some (.string x)
theorem cell_lt {w : World} {p : Addr} {v : Value} (h : w.cell? p = some v) : p.block < w.heap.size := by
  unfold World.cell? at h
  cases hb : w.heap[p.block]? with
  | none => rw [hb] at h; cases h
  | some o => exact (Array.getElem?_eq_some_iff.1 hb).1
theorem RowA.below {A : Option Addr} {l : List ByteArray} {w w' : World} (h : RowA A l w) (hb : Below w.heap.size w w') : RowA A l w' := by
  intro k x hx
  obtain ⟨ad, hA, hc⟩ := h k x hx
  exact ⟨ad, hA, (hb.cell (cell_lt hc)).trans hc⟩
theorem rowA_nil (A : Option Addr) (w : World) : RowA A [] w := fun k x hx => by simp at hx
theorem rowA_addr {w : World} {ad : Addr} {l : List ByteArray} (h : ∀ k x, l[k]? = some x → w.cell? (ad.add k) = some (.string x)) : RowA (some ad) l w := fun k x hx => ⟨ad, rfl, h k x hx⟩
theorem rowA_own {b : Nat} {lv : Value} {n : Nat} {l : List ByteArray} {w : World} (h : w.ownsRow b 9 1 lv n (l.map Value.string)) (hn : l.length = n) : ∃ A cap, lv = .slice A n cap ∧ RowA A l w := by
  rcases h.2 with ⟨hv, h0⟩ | ⟨g, cap, cur, hv, _⟩
  · refine ⟨none, 0, by rw [hv, h0], ?_⟩
    rw [List.eq_nil_of_length_eq_zero (hn.trans h0)]
    exact rowA_nil _ _
  · subst hv
    refine ⟨_, _, rfl, rowA_addr fun k x hx => ?_⟩
    have hk : k < n := by rw [← hn]; exact (List.getElem?_eq_some_iff.1 hx).1
    rw [add_at, Nat.zero_add, h.cellAt k (by omega), List.getElem?_map, hx]
    rfl
def fitsR (l : List ByteArray) : Bool := l.all fun x => decide (x.size ≤ 2147483647)
set_option maxHeartbeats 1000000 in
set_option maxRecDepth 100000 in
theorem fits_any (A : Option Addr) (n cap : Nat) (l : List ByteArray) (hn : l.length = n) (w : World) (hr : RowA A l w) (hc : n ≤ 9223372036854775807) (b : Bool) (hb : (decide (n ≤ 2147483647) && fitsR l) = b) :
    Calls Tryz.prog 9 #[.slice A n cap] w fun e w' => e = .returned (.bool b) ∧ w = w' := by
  by_cases hz : 2147483647 < n
  · have hnz : (2147483647 : Int) < (n : Int) := by omega
    obtain rfl : b = false := by rw [← hb, decide_eq_false (by omega)]; rfl
    clear hb hr hn
    go_enter Tryz.func9, Tryz.ntmps9
    go_wp2
    go_ret
    exact ⟨rfl, rfl⟩
  have hnz : ¬ (2147483647 : Int) < (n : Int) := by omega
  have HB : Hid (fitsR l = b) := Lib.hid (by rw [← hb, decide_eq_true (by omega)]; rfl)
  have HN := Lib.hid hn
  have HR := Lib.hid hr
  clear hb hr hn
  go_enter Tryz.func9, Tryz.ntmps9
  go_wp2
  go_loopg [10] n (fun c iv wr => ∃ i : Nat, iv = .int .i64 i ∧ i ≤ n ∧ c = n - i ∧ Hid (fitsR (l.drop i) = b) ∧ w = wr)
  case atStart => exact ⟨0, rfl, Nat.zero_le _, rfl, HB, rfl⟩
  case round =>
    obtain ⟨i, rfl, hi, rfl, HI, rfl⟩ := hrel
    by_cases hin : i < n
    · have hiz : (i : Int) < (n : Int) := by omega
      have hil : i < l.length := by rw [HN.out]; exact hin
      obtain ⟨x, hx⟩ : ∃ x, l[i]? = some x := ⟨_, List.getElem?_eq_getElem hil⟩
      obtain ⟨ad, rfl, hcell⟩ := HR.out i x hx
      have HD : Hid (l.drop i = x :: l.drop (i + 1)) := Lib.hid (by
        obtain ⟨h1, h2⟩ := List.getElem?_eq_some_iff.1 hx
        rw [← h2]
        exact List.drop_eq_getElem_cons h1)
      clear hx hil
      by_cases hxz : 2147483647 < x.size
      · have hxi : (2147483647 : Int) < (x.size : Int) := by omega
        have hE := HI.out
        rw [HD.out] at hE
        obtain rfl : b = false := by rw [← hE]; unfold fitsR; rw [List.all_cons, decide_eq_false (by omega)]; rfl
        clear hE hxz
        go_wp2
        go_ret
        exact ⟨rfl, rfl⟩
      · have hxi : ¬ (2147483647 : Int) < (x.size : Int) := by omega
        have HI2 : Hid (fitsR (l.drop (i + 1)) = b) := Lib.hid (by
          have hE := HI.out
          rw [HD.out] at hE
          rw [← hE]
          unfold fitsR
          rw [List.all_cons, decide_eq_true (show x.size ≤ 2147483647 by omega), Bool.true_and])
        clear hxz
        go_wp2
        go_roundg (n - (i + 1))
        case measure => omega
        case rel => exact ⟨i + 1, by go_num, by omega, rfl, HI2, rfl⟩
    · have hiz : ¬ (i : Int) < (n : Int) := by omega
      obtain rfl : b = true := by
        have hE := HI.out
        rw [List.drop_eq_nil_of_le (by rw [HN.out]; omega)] at hE
        exact hE.symm
      go_wp2
      go_ret
      exact ⟨rfl, rfl⟩
theorem fitsR_sum : ∀ l : List ByteArray, fitsR l = true → sumSz l ≤ l.length * 2147483647
  | [], _ => by simp [sumSz]
  | x :: l, h => by
    unfold fitsR at h
    rw [List.all_cons, Bool.and_eq_true] at h
    have h1 := of_decide_eq_true h.1
    have h2 := fitsR_sum l h.2
    unfold sumSz at h2 ⊢
    rw [List.map_cons, List.sum_cons, List.length_cons, Nat.succ_mul]
    omega
theorem sumSz_mem {l : List ByteArray} {i : Nat} {x : ByteArray} (h : l[i]? = some x) : x.size ≤ sumSz l := by
  have h1 := sumSz_take l i x h
  have h2 := sumSz_le l (i + 1)
  omega
set_option maxHeartbeats 1000000 in
set_option maxRecDepth 100000 in
theorem sizeA_any (A : Option Addr) (n cap : Nat) (l : List ByteArray) (hn : l.length = n) (w : World) (hr : RowA A l w) (S : Nat) (hS : n + sumSz l = S) (hs : S ≤ 4611686018427387904) :
    Calls Tryz.prog 12 #[.slice A n cap] w fun e w' => e = .returned (.int .i64 (S : Int)) ∧ w = w' := by
  have hnS : n ≤ S := by omega
  have HN := Lib.hid hn
  have HSS := Lib.hid hS
  have HR := Lib.hid hr
  clear hn hS hr
  go_enter Tryz.func12, Tryz.ntmps12
  go_wp2
  go_loopg [3, 10] n (fun c sv iv wr => ∃ (i T : Nat), iv = .int .i64 i ∧ i ≤ n ∧ c = n - i ∧ sv = .int .i64 T ∧ Hid (T = n + sumSz (l.take i)) ∧ T ≤ S ∧ w = wr)
  case atStart => exact ⟨0, n, rfl, Nat.zero_le _, rfl, rfl, Lib.hid (by simp [sumSz]), hnS, rfl⟩
  case round =>
    obtain ⟨i, T, rfl, hi, rfl, rfl, HT, hTS, rfl⟩ := hrel
    by_cases hin : i < n
    · have hiz : (i : Int) < (n : Int) := by omega
      have hil : i < l.length := by rw [HN.out]; exact hin
      obtain ⟨x, hx⟩ : ∃ x, l[i]? = some x := ⟨_, List.getElem?_eq_getElem hil⟩
      obtain ⟨ad, rfl, hcell⟩ := HR.out i x hx
      have hst := sumSz_take l i x hx
      have hle := sumSz_le l (i + 1)
      have hbd : T + x.size ≤ S := by have := HT.out; have := HSS.out; omega
      have HST := Lib.hid (show T + x.size = n + sumSz (l.take (i + 1)) by have := HT.out; omega)
      have hbz : (T : Int) + (x.size : Int) ≤ 4611686018427387904 := by omega
      clear hx hst hle hil
      go_wp2
      go_roundg (n - (i + 1))
      case measure => omega
      case rel => exact ⟨i + 1, T + x.size, by go_num, by omega, rfl, by first | go_num | exact congrArg (Value.int .i64) (by omega), HST, hbd, rfl⟩
    · have hiz : ¬ (i : Int) < (n : Int) := by omega
      have hTe : T = S := by
        have h1 := HT.out
        have h2 := HSS.out
        have h3 : l.take i = l := List.take_of_length_le (by rw [HN.out]; omega)
        rw [h3] at h1
        omega
      subst hTe
      go_wp2
      go_ret
      exact ⟨rfl, rfl⟩
end Go.Proofs.YtackciefmdiphaaGreatDoor

set_option linter.unusedVariables false
namespace Go.Proofs.YtackciefmdiphaaGreatDoor
open Go.RowKit Plain

/-- block 'c' is a row of bytes -/
def RowB (c : Nat) (l : List UInt8) (w : World) : Prop := w.heap[c]? = some (.cells (l.map fun b => Value.int .u8 (b.toNat : Int)).toArray 5 (0, 0))
theorem RowB.cell {c : Nat} {l : List UInt8} {w : World} (h : RowB c l w) {k : Nat} {x : UInt8} (hx : l[k]? = some x) : w.cell? ⟨c, k, none⟩ = some (.int .u8 (x.toNat : Int)) := by
  obtain ⟨hk, rfl⟩ := List.getElem?_eq_some_iff.1 hx
  unfold World.cell?
  rw [show w.heap[c]? = _ from h]
  simp [hk]
theorem RowB.frozen {c : Nat} {l : List UInt8} {w : World} (h : RowB c l w) (k : Nat) : w.frozen? ⟨c, k, none⟩ = false := by
  unfold World.frozen?
  rw [show w.heap[c]? = _ from h]
  simp
theorem RowB.store {c : Nat} {l : List UInt8} {w : World} (h : RowB c l w) {k : Nat} {v : UInt8} (hk : k < l.length) : RowB c (l.set k v) (w.setCell ⟨c, k, none⟩ (.int .u8 (v.toNat : Int))) := by
  unfold RowB at h ⊢
  simp only [World.setCell, Array.getElem?_modify, if_true, h, Option.map_some]
  congr 2
  apply Array.toList_inj.1
  simp [List.map_set]
theorem infoByte8 : (Tryz.prog.info? 5).map (fun i => (i.zero, i.size, i.bytes)) = some (some (.int .u8 0), 1, 1) := by kernel_rfl
theorem fill_step (n k : Nat) (x : UInt8) (hk : k < n) : (List.replicate k x ++ List.replicate (n - k) (0 : UInt8)).set k x = List.replicate (k + 1) x ++ List.replicate (n - (k + 1)) 0 := by
  obtain ⟨m, rfl⟩ : ∃ m, n = k + (m + 1) := ⟨n - k - 1, by omega⟩
  rw [show k + (m + 1) - k = m + 1 by omega, show k + (m + 1) - (k + 1) = m by omega, List.replicate_succ, List.set_append_right _ _ (by simp), List.replicate_succ' (n := k)]
  simp
set_option maxHeartbeats 2000000 in
set_option maxRecDepth 100000 in
theorem all_any (x : UInt8) (n : Nat) (xz z : Int) (hx : xz = (x.toNat : Int)) (hz : z = (n : Int)) (w : World) (hn : n ≤ 2147483648) :
    Calls Tryz.prog 14 #[.int .u8 xz, .int .i64 z] w fun e w' => e = .returned (.string ⟨(List.replicate n x).toArray⟩) ∧ Below w.heap.size w w' := by
  subst hx hz
  obtain ⟨RES, hRES⟩ : ∃ RES, List.replicate n x = RES := ⟨_, rfl⟩
  rw [hRES]
  have HRES := Lib.hid hRES
  clear hRES
  have hx256 : (x.toNat : Int) < 256 := by have := x.toNat_lt; omega
  have hmk := run_make_row' (P := Tryz.prog) 70 5 (.int .u8 0) 1 Tryz.underlying70 infoByte8 rfl .i64 .i64 n (by omega) (by omega) w
  have hrow : RowB w.heap.size (List.replicate 0 x ++ List.replicate (n - 0) 0) (w.alloc (.cells (madeCells #[.int .u8 0] n) 5)) := by
    unfold RowB
    rw [heap_alloc_new]
    congr 2
    apply Array.toList_inj.1
    apply List.ext_getElem
    · simp [madeCells]
    · intro i h1 h2
      simp [madeCells, Nat.mod_one]
  have hbw0 : Below w.heap.size w (w.alloc (.cells (madeCells #[.int .u8 0] n) 5)) := (Below.refl _ w).alloc (Nat.le_refl _) _
  generalize w.alloc (.cells (madeCells #[.int .u8 0] n) 5) = W1 at hmk hrow hbw0
  obtain ⟨c, hc⟩ : ∃ c, w.heap.size = c := ⟨_, rfl⟩
  rw [hc] at hmk hrow hbw0 ⊢
  have HCC := Lib.hid hc
  clear hc
  go_enter Tryz.func14, Tryz.ntmps14
  go_wp2
  clear hmk
  go_loopg [11] n (fun g iv wr => ∃ k : Nat, iv = .int .i64 k ∧ k ≤ n ∧ g = n - k ∧ RowB c (List.replicate k x ++ List.replicate (n - k) 0) wr ∧ Below c w wr)
  case atStart => exact ⟨0, rfl, Nat.zero_le _, rfl, hrow, hbw0⟩
  case round =>
    obtain ⟨k, rfl, hk, rfl, hr, hbw⟩ := hrel
    clear hrow hbw0
    by_cases hkn : k < n
    · have hkz : (k : Int) < (n : Int) := by omega
      have hcell := hr.cell (k := k) (x := 0) (by rw [List.getElem?_append_right (by simp), List.length_replicate, Nat.sub_self, List.getElem?_replicate, if_pos (by omega)])
      have hfz := hr.frozen k
      have HST := Lib.hid (hr.store (k := k) (v := x) (by simp; omega))
      clear hr
      go_wp2
      go_roundg (n - (k + 1))
      case measure => omega
      case rel =>
        have := HST.out
        rw [fill_step n k x hkn] at this
        exact ⟨k + 1, by go_num, by omega, rfl, this, hbw.setCell (Nat.le_refl _) _⟩
    · have hkz : ¬ (k : Int) < (n : Int) := by omega
      have hl : List.replicate k x ++ List.replicate (n - k) 0 = RES := by
        rw [show k = n by omega, Nat.sub_self, List.replicate_zero, List.append_nil, HRES.out]
      rw [hl] at hr
      have hlen : n = RES.length := by rw [← HRES.out, List.length_replicate]
      have hcv : (convert 70 9 (.slice (some ⟨c, 0, none⟩) n n)).run Tryz.prog wr = .ok (.string ⟨RES.toArray⟩) wr := by
        have := run_convert_bytes_back wr 70 9 5 ⟨c, 0, none⟩ n RES Tryz.underlying70 Tryz.underlying5 Tryz.underlying9 (fun j hj => by
          have e : ((⟨c, 0, none⟩ : Addr).add j) = ⟨c, j, none⟩ := by unfold Addr.add; split <;> simp_all
          rw [e]
          exact hr.cell (List.getElem?_eq_getElem hj))
        rw [← hlen] at this
        exact this
      clear hlen hl
      go_wp2
      go_ret
      exact ⟨rfl, hbw⟩
end Go.Proofs.YtackciefmdiphaaGreatDoor
