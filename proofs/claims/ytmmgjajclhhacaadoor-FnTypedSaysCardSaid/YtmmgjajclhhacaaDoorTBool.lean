/- Values as bools and as texts: the program's and the reference's. -/
import Derived.Test.YtmmgjajclhhacaaDoorTInt
import Derived.Lib.ConvBytes
import Derived.Laws.IdiomStrings
set_option linter.unusedVariables false
namespace Go.Proofs.YtmmgjajclhhacaaDoor
open Go.RowKit Go.Maps

def eqS (x : ByteArray) (y : List UInt8) : Bool := x.toList == y
/-- 1, yes, true, on -/
def boolX (x : ByteArray) : Bool := eqS x [49] || eqS x [116, 114, 117, 101] || eqS x [121, 101, 115] || eqS x [111, 110]
def lowX (s : ByteArray) : ByteArray := ⟨(Lib.toLowerA s.data.toList).toArray⟩
def AscS (s : ByteArray) : Prop := ∀ (j : Nat) (b : UInt8), s.data.toList[j]? = some b → b.toNat < 128
set_option maxHeartbeats 2000000 in
set_option maxRecDepth 100000 in
theorem boolVal_any (s : ByteArray) (w : World) (hs : s.size ≤ 1000000) (ha : AscS s) (b : Bool) (hb : boolX (lowX s) = b) :
    Calls Tryd.prog 37 #[.string s] w fun e w' => e = .returned (.bool b) ∧ Below w.heap.size w w' := by
  have HL := Lib.hid (Tryd.strings_ToLower_ascii s w (by omega) ha)
  obtain ⟨x, hx⟩ : ∃ x, lowX s = x := ⟨_, rfl⟩
  rw [show (⟨(Lib.toLowerA s.data.toList).toArray⟩ : ByteArray) = x from hx] at HL
  rw [hx] at hb
  clear ha hx
  by_cases q0 : eqS x [49] = true
  · have z0 : (x.toList == [49]) = true := q0
    obtain rfl : b = true := by rw [← hb]; unfold boolX; simp [q0]
    clear hb q0
    go_enter Tryd.func37, Tryd.ntmps37
    go_wp2_with (go_at_call 42; (with_reducible refine HL.out.mono ?_); rintro e w1 ⟨rfl, hb1⟩; dsimp only)
    go_wp2
    go_ret
    exact ⟨rfl, hb1⟩
  · have z0 : (x.toList == [49]) = false := by simpa [eqS] using q0
    by_cases q1 : eqS x [116, 114, 117, 101] = true
    · have z1 : (x.toList == [116, 114, 117, 101]) = true := q1
      obtain rfl : b = true := by rw [← hb]; unfold boolX; simp [q0, q1]
      clear hb q0 q1
      go_enter Tryd.func37, Tryd.ntmps37
      go_wp2_with (go_at_call 42; (with_reducible refine HL.out.mono ?_); rintro e w1 ⟨rfl, hb1⟩; dsimp only)
      go_wp2
      go_ret
      exact ⟨rfl, hb1⟩
    · have z1 : (x.toList == [116, 114, 117, 101]) = false := by simpa [eqS] using q1
      by_cases q2 : eqS x [121, 101, 115] = true
      · have z2 : (x.toList == [121, 101, 115]) = true := q2
        obtain rfl : b = true := by rw [← hb]; unfold boolX; simp [q0, q1, q2]
        clear hb q0 q1 q2
        go_enter Tryd.func37, Tryd.ntmps37
        go_wp2_with (go_at_call 42; (with_reducible refine HL.out.mono ?_); rintro e w1 ⟨rfl, hb1⟩; dsimp only)
        go_wp2
        go_ret
        exact ⟨rfl, hb1⟩
      · have z2 : (x.toList == [121, 101, 115]) = false := by simpa [eqS] using q2
        by_cases q3 : eqS x [111, 110] = true
        · have z3 : (x.toList == [111, 110]) = true := q3
          obtain rfl : b = true := by rw [← hb]; unfold boolX; simp [q0, q1, q2, q3]
          clear hb q0 q1 q2 q3
          go_enter Tryd.func37, Tryd.ntmps37
          go_wp2_with (go_at_call 42; (with_reducible refine HL.out.mono ?_); rintro e w1 ⟨rfl, hb1⟩; dsimp only)
          go_wp2
          go_ret
          exact ⟨rfl, hb1⟩
        · have z3 : (x.toList == [111, 110]) = false := by simpa [eqS] using q3
          obtain rfl : b = false := by rw [← hb]; unfold boolX; simp [q0, q1, q2, q3]
          clear hb q0 q1 q2 q3
          go_enter Tryd.func37, Tryd.ntmps37
          go_wp2_with (go_at_call 42; (with_reducible refine HL.out.mono ?_); rintro e w1 ⟨rfl, hb1⟩; dsimp only)
          go_wp2
          go_ret
          exact ⟨rfl, hb1⟩
set_option maxHeartbeats 2000000 in
set_option maxRecDepth 100000 in
theorem getB_yes (v : ByteArray) (pb : Nat) (w : World) (h : VS true v pb w) (hv : v.size ≤ 1000000) (ha : AscS v) (b : Bool) (hb : boolX (lowX v) = b) :
    Calls Tryd.prog 27 #[.pointer (some ⟨pb, 0, none⟩), .string ⟨#[107]⟩] w fun e w' => e = .returned (.tuple #[.bool b, .nilIface]) ∧ Below w.heap.size w w' := by
  have HG := Lib.hid (get_yes v pb w h)
  have HB := Lib.hid (boolVal_any v w hv ha b hb)
  clear h ha hb
  go_enter Tryd.func27, Tryd.ntmps27
  go_wp2_with (go_at_call 35; (with_reducible refine HG.out.mono ?_); rintro e w1 ⟨rfl, rfl⟩; dsimp only)
  go_wp2_with (go_at_call 37; (with_reducible refine HB.out.mono ?_); rintro e w2 ⟨rfl, hb⟩; dsimp only)
  go_wp2
  go_ret2
  exact ⟨rfl, hb⟩
def BPost (w : World) (e : Ending) (w' : World) : Prop := ∃ T p, e = .returned (.tuple #[.bool false, .iface T p]) ∧ Below w.heap.size w w'
set_option maxHeartbeats 2000000 in
set_option maxRecDepth 100000 in
theorem getB_no (v : ByteArray) (pb : Nat) (w : World) (h : VS false v pb w) :
    Calls Tryd.prog 27 #[.pointer (some ⟨pb, 0, none⟩), .string ⟨#[107]⟩] w (BPost w) := by
  unfold BPost
  have HG := Lib.hid (get_no v pb w h)
  have HK := Lib.hid (badKey_any ⟨#[107]⟩ w)
  clear h
  go_enter Tryd.func27, Tryd.ntmps27
  go_wp2_with (go_at_call 35; (with_reducible refine HG.out.mono ?_); rintro e w1 ⟨x, rfl, rfl⟩; dsimp only)
  go_wp2_with (go_at_call 38; (with_reducible refine HK.out.mono ?_); rintro e w2 ⟨T, p, rfl, hb⟩; dsimp only)
  go_wp2
  go_ret2
  exact ⟨_, _, rfl, hb⟩
set_option maxHeartbeats 2000000 in
set_option maxRecDepth 100000 in
theorem GetB_any (is : Bool) (v : ByteArray) (pb : Nat) (d : Bool) (w : World) (h : VS is v pb w) (hv : v.size ≤ 1000000) (ha : AscS v) (R : Bool) (hR : (if is then boolX (lowX v) else d) = R) :
    Calls Tryd.prog 17 #[.pointer (some ⟨pb, 0, none⟩), .string ⟨#[107]⟩, .bool d] w fun e w' => e = .returned (.bool R) ∧ Below w.heap.size w w' := by
  cases is with
  | false =>
    have HG := Lib.hid (getB_no v pb w h)
    obtain rfl : d = R := hR
    clear h ha
    go_enter Tryd.func17, Tryd.ntmps17
    go_wp2_with (go_at_call 27; (with_reducible refine HG.out.mono ?_); rintro e w1 ⟨T, p, rfl, hb⟩; dsimp only)
    go_wp2
    go_ret
    exact ⟨rfl, hb⟩
  | true =>
    have HG := Lib.hid (getB_yes v pb w h hv ha R hR)
    clear h ha hR
    go_enter Tryd.func17, Tryd.ntmps17
    go_wp2_with (go_at_call 27; (with_reducible refine HG.out.mono ?_); rintro e w1 ⟨rfl, hb⟩; dsimp only)
    go_wp2
    go_ret
    exact ⟨rfl, hb⟩
set_option maxHeartbeats 2000000 in
set_option maxRecDepth 100000 in
theorem iBool_any (is : Bool) (v : ByteArray) (d : Bool) (w : World) (hv : v.size ≤ 1000000) (ha : AscS v) (R : Bool) (hR : (if is then boolX (lowX v) else d) = R) :
    Calls Tryd.prog 4 #[.string v, .bool is, .bool d] w fun e w' => e = .returned (.bool R) ∧ Below w.heap.size w w' := by
  have HV := Lib.hid (valued_any is v w (by omega))
  have HG := Lib.hid (fun (pb : Nat) (w : World) (h : VS is v pb w) => GetB_any is v pb d w h hv ha R hR)
  clear ha hR
  go_enter Tryd.func4, Tryd.ntmps4
  go_wp2_with (go_at_call 16; with_reducible refine HV.out.mono ?_)
  rintro e w1 hp
  obtain ⟨pb, rfl, hvs, hb⟩ := hp
  dsimp only
  have HH := Lib.hid (HG.out pb w1 hvs)
  clear hvs
  go_wp2_with (go_at_call 17; (with_reducible refine HH.out.mono ?_); rintro e w2 ⟨rfl, hb2⟩; dsimp only)
  go_wp2
  go_ret
  exact ⟨rfl, bthen hb hb2⟩
set_option maxHeartbeats 2000000 in
set_option maxRecDepth 100000 in
theorem GetS_any (is : Bool) (v : ByteArray) (pb : Nat) (d : ByteArray) (w : World) (h : VS is v pb w) :
    Calls Tryd.prog 24 #[.pointer (some ⟨pb, 0, none⟩), .string ⟨#[107]⟩, .string d] w fun e w' => e = .returned (.string (if is then v else d)) ∧ w = w' := by
  cases is with
  | false =>
    have HG := Lib.hid (get_no v pb w h)
    have hr : (if false = true then v else d) = d := rfl
    rw [hr]
    clear h hr
    go_enter Tryd.func24, Tryd.ntmps24
    go_wp2_with (go_at_call 35; (with_reducible refine HG.out.mono ?_); rintro e w1 ⟨x, rfl, rfl⟩; dsimp only)
    go_wp2
    go_ret
    exact ⟨rfl, rfl⟩
  | true =>
    have HG := Lib.hid (get_yes v pb w h)
    have hr : (if true = true then v else d) = v := rfl
    rw [hr]
    clear h hr
    go_enter Tryd.func24, Tryd.ntmps24
    go_wp2_with (go_at_call 35; (with_reducible refine HG.out.mono ?_); rintro e w1 ⟨rfl, rfl⟩; dsimp only)
    go_wp2
    go_ret
    exact ⟨rfl, rfl⟩
set_option maxHeartbeats 2000000 in
set_option maxRecDepth 100000 in
theorem iStr_any (is : Bool) (v d : ByteArray) (w : World) (hv : v.size ≤ 1000000) (R : ByteArray) (hR : (if is then v else d) = R) :
    Calls Tryd.prog 14 #[.string v, .bool is, .string d] w fun e w' => e = .returned (.string R) ∧ Below w.heap.size w w' := by
  have HV := Lib.hid (valued_any is v w (by omega))
  have HG := Lib.hid (fun (pb : Nat) (w : World) (h : VS is v pb w) => GetS_any is v pb d w h)
  rw [hR] at HG
  clear hR
  go_enter Tryd.func14, Tryd.ntmps14
  go_wp2_with (go_at_call 16; with_reducible refine HV.out.mono ?_)
  rintro e w1 hp
  obtain ⟨pb, rfl, hvs, hb⟩ := hp
  dsimp only
  have HH := Lib.hid (HG.out pb w1 hvs)
  clear hvs
  go_wp2_with (go_at_call 24; (with_reducible refine HH.out.mono ?_); rintro e w2 ⟨rfl, rfl⟩; dsimp only)
  go_wp2
  go_ret
  exact ⟨rfl, hb⟩
end Go.Proofs.YtmmgjajclhhacaaDoor
