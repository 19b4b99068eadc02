/- The walk of laws.all: a text of equal bytes. -/
import Derived.Test.YtcjfcjlendibpaaDoorPlain
import Derived.Test.YtcjfcjlendibpaaDoorProg
import Derived.WalkKit
import Derived.Lib.Hide
import Derived.Deep.OwnRows
import Derived.Deep.LoopGhost
import Derived.Laws.IdiomStrings
set_option linter.unusedVariables false
namespace Go.Proofs.YtcjfcjlendibpaaDoor
open Go.RowKit Plain

/-- block 'c' is a row of bytes -/
def RowB (c : Nat) (l : List UInt8) (w : World) : Prop := w.heap[c]? = some (.cells (l.map fun b => Value.int .u8 (b.toNat : Int)).toArray 5 (0, 0))
theorem RowB.cell {c : Nat} {l : List UInt8} {w : World} (h : RowB c l w) {k : Nat} {x : UInt8} (hx : l[k]? = some x) : w.cell? ⟨c, k, none⟩ = some (.int .u8 (x.toNat : Int)) := by
  obtain ⟨hk, rfl⟩ := List.getElem?_eq_some_iff.1 hx
  unfold World.cell?
  rw [show w.heap[c]? = _ from h]
  simp [hk]
theorem RowB.frozen {c : Nat} {l : List UInt8} {w : World} (h : RowB c l w) (k : Nat) : w.frozen? ⟨c, k, none⟩ = false := by
  unfold World.frozen?
  rw [show w.heap[c]? = _ from h]
  simp
theorem RowB.store {c : Nat} {l : List UInt8} {w : World} (h : RowB c l w) {k : Nat} {v : UInt8} (hk : k < l.length) : RowB c (l.set k v) (w.setCell ⟨c, k, none⟩ (.int .u8 (v.toNat : Int))) := by
  unfold RowB at h ⊢
  simp only [World.setCell, Array.getElem?_modify, if_true, h, Option.map_some]
  congr 2
  apply Array.toList_inj.1
  simp [List.map_set]
theorem infoByte8 : (Tryd.prog.info? 5).map (fun i => (i.zero, i.size, i.bytes)) = some (some (.int .u8 0), 1, 1) := by kernel_rfl
theorem fill_step (n k : Nat) (x : UInt8) (hk : k < n) : (List.replicate k x ++ List.replicate (n - k) (0 : UInt8)).set k x = List.replicate (k + 1) x ++ List.replicate (n - (k + 1)) 0 := by
  obtain ⟨m, rfl⟩ : ∃ m, n = k + (m + 1) := ⟨n - k - 1, by omega⟩
  rw [show k + (m + 1) - k = m + 1 by omega, show k + (m + 1) - (k + 1) = m by omega, List.replicate_succ, List.set_append_right _ _ (by simp), List.replicate_succ' (n := k)]
  simp
set_option maxHeartbeats 2000000 in
set_option maxRecDepth 100000 in
theorem all_any (x : UInt8) (n : Nat) (xz z : Int) (hx : xz = (x.toNat : Int)) (hz : z = (n : Int)) (w : World) (hn : n ≤ 2147483648) :
    Calls Tryd.prog 12 #[.int .u8 xz, .int .i64 z] w fun e w' => e = .returned (.string ⟨(List.replicate n x).toArray⟩) ∧ Below w.heap.size w w' := by
  subst hx hz
  obtain ⟨RES, hRES⟩ : ∃ RES, List.replicate n x = RES := ⟨_, rfl⟩
  rw [hRES]
  have HRES := Lib.hid hRES
  clear hRES
  have hx256 : (x.toNat : Int) < 256 := by have := x.toNat_lt; omega
  have hmk := run_make_row' (P := Tryd.prog) 56 5 (.int .u8 0) 1 Tryd.underlying56 infoByte8 rfl .i64 .i64 n (by omega) (by omega) w
  have hrow : RowB w.heap.size (List.replicate 0 x ++ List.replicate (n - 0) 0) (w.alloc (.cells (madeCells #[.int .u8 0] n) 5)) := by
    unfold RowB
    rw [heap_alloc_new]
    congr 2
    apply Array.toList_inj.1
    apply List.ext_getElem
    · simp [madeCells]
    · intro i h1 h2
      simp [madeCells, Nat.mod_one]
  have hbw0 : Below w.heap.size w (w.alloc (.cells (madeCells #[.int .u8 0] n) 5)) := (Below.refl _ w).alloc (Nat.le_refl _) _
  generalize w.alloc (.cells (madeCells #[.int .u8 0] n) 5) = W1 at hmk hrow hbw0
  obtain ⟨c, hc⟩ : ∃ c, w.heap.size = c := ⟨_, rfl⟩
  rw [hc] at hmk hrow hbw0 ⊢
  have HCC := Lib.hid hc
  clear hc
  go_enter Tryd.func12, Tryd.ntmps12
  go_wp2
  clear hmk
  go_loopg [11] n (fun g iv wr => ∃ k : Nat, iv = .int .i64 k ∧ k ≤ n ∧ g = n - k ∧ RowB c (List.replicate k x ++ List.replicate (n - k) 0) wr ∧ Below c w wr)
  case atStart => exact ⟨0, rfl, Nat.zero_le _, rfl, hrow, hbw0⟩
  case round =>
    obtain ⟨k, rfl, hk, rfl, hr, hbw⟩ := hrel
    clear hrow hbw0
    by_cases hkn : k < n
    · have hkz : (k : Int) < (n : Int) := by omega
      have hcell := hr.cell (k := k) (x := 0) (by rw [List.getElem?_append_right (by simp), List.length_replicate, Nat.sub_self, List.getElem?_replicate, if_pos (by omega)])
      have hfz := hr.frozen k
      have HST := Lib.hid (hr.store (k := k) (v := x) (by simp; omega))
      clear hr
      go_wp2
      go_roundg (n - (k + 1))
      case measure => omega
      case rel =>
        have := HST.out
        rw [fill_step n k x hkn] at this
        exact ⟨k + 1, by go_num, by omega, rfl, this, hbw.setCell (Nat.le_refl _) _⟩
    · have hkz : ¬ (k : Int) < (n : Int) := by omega
      have hl : List.replicate k x ++ List.replicate (n - k) 0 = RES := by
        rw [show k = n by omega, Nat.sub_self, List.replicate_zero, List.append_nil, HRES.out]
      rw [hl] at hr
      have hlen : n = RES.length := by rw [← HRES.out, List.length_replicate]
      have hcv : (convert 56 9 (.slice (some ⟨c, 0, none⟩) n n)).run Tryd.prog wr = .ok (.string ⟨RES.toArray⟩) wr := by
        have := run_convert_bytes_back wr 56 9 5 ⟨c, 0, none⟩ n RES Tryd.underlying56 Tryd.underlying5 Tryd.underlying9 (fun j hj => by
          have e : ((⟨c, 0, none⟩ : Addr).add j) = ⟨c, j, none⟩ := by unfold Addr.add; split <;> simp_all
          rw [e]
          exact hr.cell (List.getElem?_eq_getElem hj))
        rw [← hlen] at this
        exact this
      clear hlen hl
      go_wp2
      go_ret
      exact ⟨rfl, hbw⟩
end Go.Proofs.YtcjfcjlendibpaaDoor
