/- The walk of laws.lower: letters of ASCII turned in a row of bytes (at a dump without laws.upper). -/
import Derived.Test.YtinchnmmemhfiaaDoorDec
import Derived.Test.YtinchnmmemhfiaaDoorCaseLaw
import Derived.Lib.ConvBytes
import Derived.Laws.IdiomStrings
import Derived.Deep.LoopGhost
set_option linter.unusedVariables false
namespace Go.Proofs.YtinchnmmemhfiaaDoor
open Go.RowKit Plain

/-- block 'c' is a row of bytes that was made of a text -/
def RowU (c : Nat) (l : List UInt8) (w : World) : Prop := ∃ (pad : Array Value) (n : Nat), w.heap[c]? = some (.cells ((l.map fun b => Value.int .u8 (b.toNat : Int)).toArray ++ pad) 5 (n, n + 1)) ∧ l.length ≤ n
theorem RowU.cell {c : Nat} {l : List UInt8} {w : World} (h : RowU c l w) {k : Nat} {x : UInt8} (hx : l[k]? = some x) : w.cell? ⟨c, k, none⟩ = some (.int .u8 (x.toNat : Int)) := by
  obtain ⟨pad, n, h1, _⟩ := h
  obtain ⟨hk, rfl⟩ := List.getElem?_eq_some_iff.1 hx
  unfold World.cell?
  rw [h1]
  simp [Array.getElem?_append, hk]
theorem RowU.frozen {c : Nat} {l : List UInt8} {w : World} (h : RowU c l w) {k : Nat} (hk : k < l.length) : w.frozen? ⟨c, k, none⟩ = false := by
  obtain ⟨pad, n, h1, h2⟩ := h
  unfold World.frozen?
  rw [h1]
  simp
  omega
theorem RowU.store {c : Nat} {l : List UInt8} {w : World} (h : RowU c l w) {k : Nat} {v : UInt8} (hk : k < l.length) : RowU c (l.set k v) (w.setCell ⟨c, k, none⟩ (.int .u8 (v.toNat : Int))) := by
  obtain ⟨pad, n, h1, h2⟩ := h
  refine ⟨pad, n, ?_, by simpa using h2⟩
  simp only [World.setCell, Array.getElem?_modify, if_true, h1, Option.map_some]
  congr 2
  apply Array.toList_inj.1
  simp [hk, List.map_set]
theorem rowU_new (w : World) (s : ByteArray) : RowU w.heap.size s.data.toList (Lib.bytesWorld w 5 s) := by
  refine ⟨Array.replicate (grownCap w s.size 0 5 - s.size) (.int .u8 0), (Lib.bytesCells w 5 s).size, ?_, ?_⟩
  · rw [Lib.bytesWorld_at_new]
    congr 2
    unfold Lib.bytesCells
    congr 1
    apply Array.toList_inj.1
    simp
  · unfold Lib.bytesCells
    simp
theorem rngU (x : UInt8) (lo hi : Int) : (x.toNat : Int) < lo ∨ (lo ≤ (x.toNat : Int) ∧ (x.toNat : Int) ≤ hi) ∨ hi < (x.toNat : Int) := by omega
theorem take_map_set (f : UInt8 → UInt8) (l : List UInt8) (k : Nat) {x : UInt8} (hx : l[k]? = some x) : ((l.take k).map f ++ l.drop k).set k (f x) = (l.take (k + 1)).map f ++ l.drop (k + 1) := by
  obtain ⟨hk, rfl⟩ := List.getElem?_eq_some_iff.1 hx
  rw [List.set_append_right _ _ (by simp; omega)]
  simp only [List.length_map, List.length_take, Nat.min_eq_left (Nat.le_of_lt hk), Nat.sub_self]
  rw [List.drop_eq_getElem_cons hk, List.set_cons_zero, List.take_succ_eq_append_getElem hk, List.map_append]
  simp only [List.map_cons, List.map_nil, List.append_assoc, List.cons_append, List.nil_append]
theorem take_map_same (f : UInt8 → UInt8) (l : List UInt8) (k : Nat) {x : UInt8} (hx : l[k]? = some x) (hf : f x = x) : (l.take (k + 1)).map f ++ l.drop (k + 1) = (l.take k).map f ++ l.drop k := by
  obtain ⟨hk, rfl⟩ := List.getElem?_eq_some_iff.1 hx
  rw [List.take_succ_eq_append_getElem hk, List.drop_eq_getElem_cons hk, List.map_append]
  simp only [List.map_cons, List.map_nil, List.append_assoc, List.cons_append, List.nil_append, hf]
theorem val_upB (x : UInt8) (h : (97 : Int) ≤ x.toNat) (h' : (x.toNat : Int) ≤ 122) : ((upB x).toNat : Int) = (x.toNat : Int) - 32 := by
  have := byte_all (p := fun x => !(lowB x) || ((upB x).toNat + 32 == x.toNat)) (by decide +kernel) x
  have hl : lowB x = true := by unfold lowB; simp; omega
  simp [hl] at this
  omega
theorem val_dnB (x : UInt8) (h : (65 : Int) ≤ x.toNat) (h' : (x.toNat : Int) ≤ 90) : ((dnB x).toNat : Int) = (x.toNat : Int) + 32 := by
  have := byte_all (p := fun x => !(capB x) || ((dnB x).toNat == x.toNat + 32)) (by decide +kernel) x
  have hl : capB x = true := by unfold capB; simp; omega
  simp [hl] at this
  omega

set_option maxHeartbeats 2000000 in
set_option maxRecDepth 100000 in
theorem lower_any (s : ByteArray) (w : World) (hs : s.size ≤ 140737488355328) :
    Calls Tryd.prog 8 #[.string s] w fun e w' => e = .returned (.string ⟨(s.data.toList.map dnB).toArray⟩) ∧ Below w.heap.size w w' := by
  obtain ⟨R, hR⟩ : ∃ R, s.data.toList.map dnB = R := ⟨_, rfl⟩
  rw [hR]
  have HR := Lib.hid hR
  clear hR
  go_enter Tryd.func8, Tryd.ntmps8
  go_wp2
  rw [Lib.run_convert_string_bytes w 9 26 5 s (u := .string) Tryd.underlying9 Tryd.underlying26 Tryd.underlying5]
  simp only [Result.andThen]
  rw [Oper.upon_value]
  have hrow := rowU_new w s
  have hbw0 : Below w.heap.size w (Lib.bytesWorld w 5 s) := ⟨rfl, rfl, rfl, by rw [Lib.bytesWorld_size]; omega, fun j hj => Lib.bytesWorld_at_old w 5 s j hj⟩
  obtain ⟨W1, hW1⟩ : ∃ W1, Lib.bytesWorld w 5 s = W1 := ⟨_, rfl⟩
  obtain ⟨CAP, hCAP⟩ : ∃ CAP, grownCap w s.size 0 5 = CAP := ⟨_, rfl⟩
  obtain ⟨c, hc⟩ : ∃ c, w.heap.size = c := ⟨_, rfl⟩
  rw [hW1, hc] at hrow
  rw [hW1, hc] at hbw0
  rw [hW1, hCAP, hc]
  clear hW1 hCAP
  have HCC := Lib.hid hc
  clear hc
  go_wp2
  go_loopg [9] s.size (fun g iv wr => ∃ k : Nat, iv = .int .i64 k ∧ k ≤ s.size ∧ g = s.size - k ∧ RowU c ((s.data.toList.take k).map dnB ++ s.data.toList.drop k) wr ∧ Below c w wr)
  case atStart => exact ⟨0, rfl, Nat.zero_le _, rfl, by simpa using hrow, hbw0⟩
  case round =>
    obtain ⟨k, rfl, hk, rfl, hr, hbw⟩ := hrel
    clear hrow hbw0
    by_cases hkn : k < s.size
    · have hkz : (k : Int) < (s.size : Int) := by omega
      obtain ⟨x, hx⟩ : ∃ x, s.data.toList[k]? = some x := ⟨_, Lib.data_getElem? s k hkn⟩
      have hkl : k < s.data.toList.length := by rw [← Lib.size_eq]; exact hkn
      have hcell := hr.cell (k := k) (x := x) (by rw [List.getElem?_append_right (by simp; omega)]; simp; rw [Nat.min_eq_left (by omega), Nat.sub_self, Nat.add_zero]; simpa using hx)
      have hfz := hr.frozen (k := k) (by simp; omega)
      have HRS := Lib.hid (fun (v : UInt8) => hr.store (k := k) (v := v) (by simp; omega))
      have HX := Lib.hid hx
      have HR0 := Lib.hid hr
      clear hx hr
      have hx256 : (x.toNat : Int) < 256 := by have := x.toNat_lt; omega
      rcases rngU x 65 90 with h | ⟨h, h'⟩ | h
      · go_wp2
        go_roundg (s.size - (k + 1))
        case measure => omega
        case rel =>
          refine ⟨k + 1, by go_num, by omega, rfl, ?_, hbw⟩
          rw [take_map_same _ _ _ HX.out (by unfold dnB capB; rw [if_neg (by simp; omega)])]
          exact HR0.out
      · go_wp2
        go_roundg (s.size - (k + 1))
        case measure => omega
        case rel =>
          refine ⟨k + 1, by go_num, by omega, rfl, ?_, hbw.setCell (Nat.le_refl _) _⟩
          have := HRS.out (dnB x)
          rw [take_map_set _ _ _ HX.out] at this
          have hv : ((dnB x).toNat : Int) = (x.toNat : Int) + 32 := val_dnB x h h'
          rw [hv] at this
          exact this
      · go_wp2
        go_roundg (s.size - (k + 1))
        case measure => omega
        case rel =>
          refine ⟨k + 1, by go_num, by omega, rfl, ?_, hbw⟩
          rw [take_map_same _ _ _ HX.out (by unfold dnB capB; rw [if_neg (by simp; omega)])]
          exact HR0.out
    · have hkz : ¬ (k : Int) < (s.size : Int) := by omega
      have hcv : (convert 26 9 (.slice (some ⟨c, 0, none⟩) s.size CAP)).run Tryd.prog wr = .ok (.string ⟨R.toArray⟩) wr := by
        have hl : s.size = R.length := by rw [← HR.out, List.length_map, ← Lib.size_eq]
        rw [hl]
        refine run_convert_bytes_back wr 26 9 5 ⟨c, 0, none⟩ CAP R Tryd.underlying26 Tryd.underlying5 Tryd.underlying9 ?_
        intro j hj
        have hall : (s.data.toList.take k).map dnB ++ s.data.toList.drop k = R := by
          rw [List.take_of_length_le (by rw [← Lib.size_eq]; omega), List.drop_eq_nil_of_le (by rw [← Lib.size_eq]; omega), List.append_nil, HR.out]
        rw [hall] at hr
        have e : ((⟨c, 0, none⟩ : Addr).add j) = ⟨c, j, none⟩ := by unfold Addr.add; split <;> simp_all
        rw [e]
        exact hr.cell (List.getElem?_eq_getElem hj)
      go_wp2
      go_ret
      exact ⟨rfl, HCC.out ▸ hbw⟩
end Go.Proofs.YtinchnmmemhfiaaDoor
