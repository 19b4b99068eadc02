/- The reference's spec.BoolOf: small letters in a row of bytes. -/
import Derived.Test.YtmmgjajclhhacaaDoorTBool
set_option linter.unusedVariables false
namespace Go.Proofs.YtmmgjajclhhacaaDoor
open Go.RowKit Go.Maps

/-- block 'c' is a row of bytes that was made of a text -/
def RowU (c : Nat) (l : List UInt8) (w : World) : Prop := ∃ (pad : Array Value) (n : Nat), w.heap[c]? = some (.cells ((l.map fun b => Value.int .u8 (b.toNat : Int)).toArray ++ pad) 5 (n, n + 1)) ∧ l.length ≤ n
theorem RowU.cell {c : Nat} {l : List UInt8} {w : World} (h : RowU c l w) {k : Nat} {x : UInt8} (hx : l[k]? = some x) : w.cell? ⟨c, k, none⟩ = some (.int .u8 (x.toNat : Int)) := by
  obtain ⟨pad, n, h1, _⟩ := h
  obtain ⟨hk, rfl⟩ := List.getElem?_eq_some_iff.1 hx
  unfold World.cell?
  rw [h1]
  simp [Array.getElem?_append, hk]
theorem RowU.frozen {c : Nat} {l : List UInt8} {w : World} (h : RowU c l w) {k : Nat} (hk : k < l.length) : w.frozen? ⟨c, k, none⟩ = false := by
  obtain ⟨pad, n, h1, h2⟩ := h
  unfold World.frozen?
  rw [h1]
  simp
  omega
theorem RowU.store {c : Nat} {l : List UInt8} {w : World} (h : RowU c l w) {k : Nat} {v : UInt8} (hk : k < l.length) : RowU c (l.set k v) (w.setCell ⟨c, k, none⟩ (.int .u8 (v.toNat : Int))) := by
  obtain ⟨pad, n, h1, h2⟩ := h
  refine ⟨pad, n, ?_, by simpa using h2⟩
  simp only [World.setCell, Array.getElem?_modify, if_true, h1, Option.map_some]
  congr 2
  apply Array.toList_inj.1
  simp [hk, List.map_set]
theorem rowU_new (w : World) (s : ByteArray) : RowU w.heap.size s.data.toList (Lib.bytesWorld w 5 s) := by
  refine ⟨Array.replicate (grownCap w s.size 0 5 - s.size) (.int .u8 0), (Lib.bytesCells w 5 s).size, ?_, ?_⟩
  · rw [Lib.bytesWorld_at_new]
    congr 2
    unfold Lib.bytesCells
    congr 1
    apply Array.toList_inj.1
    simp
  · unfold Lib.bytesCells
    simp
theorem take_map_set (f : UInt8 → UInt8) (l : List UInt8) (k : Nat) {x : UInt8} (hx : l[k]? = some x) : ((l.take k).map f ++ l.drop k).set k (f x) = (l.take (k + 1)).map f ++ l.drop (k + 1) := by
  obtain ⟨hk, rfl⟩ := List.getElem?_eq_some_iff.1 hx
  rw [List.set_append_right _ _ (by simp; omega)]
  simp only [List.length_map, List.length_take, Nat.min_eq_left (Nat.le_of_lt hk), Nat.sub_self]
  rw [List.drop_eq_getElem_cons hk, List.set_cons_zero, List.take_succ_eq_append_getElem hk, List.map_append]
  simp only [List.map_cons, List.map_nil, List.append_assoc, List.cons_append, List.nil_append]
theorem byte_all {p : UInt8 → Bool} (h : ((List.range 256).all fun n => p (UInt8.ofNat n)) = true) (b : UInt8) : p b = true := by
  have := List.all_eq_true.1 h b.toNat (List.mem_range.2 b.toNat_lt)
  simpa using this
theorem low_up (x : UInt8) (h : 65 ≤ x.toNat) (h' : x.toNat ≤ 90) : ((Lib.lowerB x).toNat : Int) = (x.toNat : Int) + 32 := by
  have := byte_all (p := fun x => !(decide (65 ≤ x.toNat) && decide (x.toNat ≤ 90)) || ((Lib.lowerB x).toNat == x.toNat + 32)) (by decide +kernel) x
  simp [h, h'] at this
  omega
theorem low_no (x : UInt8) (h : x.toNat < 65 ∨ 90 < x.toNat) : Lib.lowerB x = x := by
  have := byte_all (p := fun x => (decide (65 ≤ x.toNat) && decide (x.toNat ≤ 90)) || (Lib.lowerB x == x)) (by decide +kernel) x
  simp at this
  rcases this with h1 | h1
  · omega
  · exact h1
theorem turn_any (x : UInt8) (w : World) : Calls Tryd.prog 19 #[.int .u8 (x.toNat : Int), .bool false] w fun e w' => e = .returned (.int .u8 ((Lib.lowerB x).toNat : Int)) ∧ w = w' := by
  have hx := x.toNat_lt
  by_cases h1 : 65 ≤ x.toNat
  · have h1z : (65 : Int) ≤ (x.toNat : Int) := by omega
    by_cases h2 : x.toNat ≤ 90
    · rw [low_up x h1 h2]
      have h2z : (x.toNat : Int) ≤ 90 := by omega
      clear h1 h2
      generalize x.toNat = c at *
      go_enter Tryd.func19, Tryd.ntmps19
      go_wp2
      go_ret
      exact ⟨rfl, rfl⟩
    · rw [low_no x (by omega)]
      have h2z : ¬ (x.toNat : Int) ≤ 90 := by omega
      clear h1 h2
      generalize x.toNat = c at *
      go_enter Tryd.func19, Tryd.ntmps19
      go_wp2
      go_ret
      exact ⟨rfl, rfl⟩
  · rw [low_no x (by omega)]
    have h1z : ¬ (65 : Int) ≤ (x.toNat : Int) := by omega
    clear h1
    generalize x.toNat = c at *
    go_enter Tryd.func19, Tryd.ntmps19
    go_wp2
    go_ret
    exact ⟨rfl, rfl⟩
set_option maxRecDepth 100000 in
theorem sBool_no (s : ByteArray) (d : Bool) (w : World) : Calls Tryd.prog 8 #[.string s, .bool false, .bool d] w fun e w' => e = .returned (.bool d) ∧ Below w.heap.size w w' := by
  go_enter Tryd.func8, Tryd.ntmps8
  go_wp2
  go_ret
  exact ⟨rfl, Below.refl _ _⟩
set_option maxHeartbeats 4000000 in
set_option maxRecDepth 100000 in
theorem sBool_yes (s : ByteArray) (d : Bool) (w : World) (hs : s.size ≤ 1000000) (b : Bool) (hb : boolX (lowX s) = b) :
    Calls Tryd.prog 8 #[.string s, .bool true, .bool d] w fun e w' => e = .returned (.bool b) ∧ Below w.heap.size w w' := by
  obtain ⟨x, hx⟩ : ∃ x, lowX s = x := ⟨_, rfl⟩
  rw [hx] at hb
  have HX := Lib.hid hx
  have HB := Lib.hid hb
  clear hx hb
  go_enter Tryd.func8, Tryd.ntmps8
  go_wp2
  rw [Lib.run_convert_string_bytes w 9 38 5 s (u := .string) Tryd.underlying9 Tryd.underlying38 Tryd.underlying5]
  simp only [Result.andThen]
  rw [Oper.upon_value]
  have hrow := rowU_new w s
  have hbw0 : Below w.heap.size w (Lib.bytesWorld w 5 s) := Lib.bytesWorld_below _ _ _
  obtain ⟨W1, hW1⟩ : ∃ W1, Lib.bytesWorld w 5 s = W1 := ⟨_, rfl⟩
  obtain ⟨CAP, hCAP⟩ : ∃ CAP, grownCap w s.size 0 5 = CAP := ⟨_, rfl⟩
  obtain ⟨c, hc⟩ : ∃ c, w.heap.size = c := ⟨_, rfl⟩
  rw [hW1, hc] at hrow
  rw [hW1, hc] at hbw0
  rw [hW1, hCAP, hc]
  clear hW1 hCAP
  have HCC := Lib.hid hc
  clear hc
  go_wp2
  go_loopg [17] s.size (fun g iv wr => ∃ k : Nat, iv = .int .i64 k ∧ k ≤ s.size ∧ g = s.size - k ∧ RowU c ((s.data.toList.take k).map Lib.lowerB ++ s.data.toList.drop k) wr ∧ Below c w wr)
  case atStart => exact ⟨0, rfl, Nat.zero_le _, rfl, by simpa using hrow, hbw0⟩
  case round =>
    obtain ⟨k, rfl, hk, rfl, hr, hbw⟩ := hrel
    clear hrow hbw0
    by_cases hkn : k < s.size
    · have hkz : (k : Int) < (s.size : Int) := by omega
      obtain ⟨x, hx⟩ : ∃ x, s.data.toList[k]? = some x := ⟨_, Lib.data_getElem? s k hkn⟩
      have hkl : k < s.data.toList.length := by rw [← Lib.size_eq]; exact hkn
      have hcell := hr.cell (k := k) (x := x) (by rw [List.getElem?_append_right (by simp; omega)]; simp; rw [Nat.min_eq_left (by omega), Nat.sub_self, Nat.add_zero]; simpa using hx)
      have hfz := hr.frozen (k := k) (by simp; omega)
      have HRS := Lib.hid (hr.store (k := k) (v := Lib.lowerB x) (by simp; omega))
      have HX := Lib.hid hx
      have HT := Lib.hid (fun w => turn_any x w)
      clear hx hr
      go_wp2_with (go_at_call 19; (with_reducible refine (HT.out _).mono ?_); rintro e w1 ⟨rfl, rfl⟩; dsimp only)
      go_wp2
      go_roundg (s.size - (k + 1))
      case measure => omega
      case rel =>
        refine ⟨k + 1, by go_num, by omega, rfl, ?_, hbw.setCell (Nat.le_refl _) _⟩
        have := HRS.out
        rw [take_map_set _ _ _ HX.out] at this
        exact this
    · have hkz : ¬ (k : Int) < (s.size : Int) := by omega
      have hcv : (convert 38 9 (.slice (some ⟨c, 0, none⟩) s.size CAP)).run Tryd.prog wr = .ok (.string x) wr := by
        have hxl : x = ⟨(Lib.toLowerA s.data.toList).toArray⟩ := HX.out.symm
        obtain ⟨R, hR⟩ : ∃ R, Lib.toLowerA s.data.toList = R := ⟨_, rfl⟩
        rw [hxl, hR]
        have hl : s.size = R.length := by rw [← hR, Lib.toLowerA, List.length_map, ← Lib.size_eq]
        rw [hl]
        refine run_convert_bytes_back wr 38 9 5 ⟨c, 0, none⟩ CAP R Tryd.underlying38 Tryd.underlying5 Tryd.underlying9 ?_
        intro j hj
        have hall : (s.data.toList.take k).map Lib.lowerB ++ s.data.toList.drop k = R := by
          rw [List.take_of_length_le (by rw [← Lib.size_eq]; omega), List.drop_eq_nil_of_le (by rw [← Lib.size_eq]; omega), List.append_nil]
          exact hR
        rw [hall] at hr
        have e : ((⟨c, 0, none⟩ : Addr).add j) = ⟨c, j, none⟩ := by unfold Addr.add; split <;> simp_all
        rw [e]
        have hjl : j < R.length := hj
        rw [hr.cell (x := R[j]'hjl) (List.getElem?_eq_getElem hjl)]
      clear hr
      by_cases q0 : eqS x [49] = true
      · have z0 : (x.toList == [49]) = true := q0
        obtain rfl : b = true := by rw [← HB.out]; unfold boolX; simp [q0]
        clear q0
        go_wp2
        go_ret
        exact ⟨rfl, by rw [HCC.out]; exact hbw⟩
      · have z0 : (x.toList == [49]) = false := by simpa [eqS] using q0
        by_cases q1 : eqS x [121, 101, 115] = true
        · have z1 : (x.toList == [121, 101, 115]) = true := q1
          obtain rfl : b = true := by rw [← HB.out]; unfold boolX; simp [q0, q1]
          clear q0 q1
          go_wp2
          go_ret
          exact ⟨rfl, by rw [HCC.out]; exact hbw⟩
        · have z1 : (x.toList == [121, 101, 115]) = false := by simpa [eqS] using q1
          by_cases q2 : eqS x [116, 114, 117, 101] = true
          · have z2 : (x.toList == [116, 114, 117, 101]) = true := q2
            obtain rfl : b = true := by rw [← HB.out]; unfold boolX; simp [q0, q1, q2]
            clear q0 q1 q2
            go_wp2
            go_ret
            exact ⟨rfl, by rw [HCC.out]; exact hbw⟩
          · have z2 : (x.toList == [116, 114, 117, 101]) = false := by simpa [eqS] using q2
            by_cases q3 : eqS x [111, 110] = true
            · have z3 : (x.toList == [111, 110]) = true := q3
              obtain rfl : b = true := by rw [← HB.out]; unfold boolX; simp [q0, q1, q2, q3]
              clear q0 q1 q2 q3
              go_wp2
              go_ret
              exact ⟨rfl, by rw [HCC.out]; exact hbw⟩
            · have z3 : (x.toList == [111, 110]) = false := by simpa [eqS] using q3
              obtain rfl : b = false := by rw [← HB.out]; unfold boolX; simp [q0, q1, q2, q3]
              clear q0 q1 q2 q3
              go_wp2
              go_ret
              exact ⟨rfl, by rw [HCC.out]; exact hbw⟩
theorem sBool_any (is : Bool) (s : ByteArray) (d : Bool) (w : World) (hs : s.size ≤ 1000000) (R : Bool) (hR : (if is then boolX (lowX s) else d) = R) :
    Calls Tryd.prog 8 #[.string s, .bool is, .bool d] w fun e w' => e = .returned (.bool R) ∧ Below w.heap.size w w' := by
  cases is with
  | false =>
    obtain rfl : d = R := hR
    exact sBool_no s d w
  | true => exact sBool_yes s d w hs R hR
end Go.Proofs.YtmmgjajclhhacaaDoor
