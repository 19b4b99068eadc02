/- The walks of spec.Slice and spec.Insert. -/
import Derived.Test.YtobcoplfniojkaaDoorSJust
import Derived.Test.YtobcoplfniojkaaDoorInsert
import Derived.BigQuiet
set_option linter.unusedVariables false
namespace Go.Proofs.YtobcoplfniojkaaDoor
open Go.RowKit Plain

theorem sub_text (l : List UInt8) (h : Lib.validD l = true) (a b : Nat) : textOf (((rnsOf l).take b).drop a) = ⟨((((segs l).take b).drop a).flatten).toArray⟩ := by
  apply ByteArray.ext
  apply Array.toList_inj.1
  unfold rnsOf
  rw [← List.map_take, ← List.map_drop, textOf_good _ (fun c hc => segs_good l h c (List.mem_of_mem_take (List.mem_of_mem_drop hc)))]
/-- the answer of spec.Slice, of spec.Insert -/
def CAns (r : ByteArray) (bad : Bool) (v : Prop) (e : Ending) : Prop :=
  (∃ z, e = .returned (.tuple #[.string z, .int .i64 2])) ∨ (bad = true ∧ (∃ z, e = .returned (.tuple #[.string z, .int .i64 0])) ∧ v) ∨ (bad = false ∧ e = .returned (.tuple #[.string r, .int .i64 1]) ∧ v)
set_option maxHeartbeats 8000000 in
set_option maxRecDepth 100000 in
theorem specSlice_any (s : ByteArray) (st en : Int) (w : World) (hs : s.size ≤ 2147483647) (b1 : -9223372036854775808 ≤ st ∧ st ≤ 9223372036854775807) (b2 : -9223372036854775808 ≤ en ∧ en ≤ 9223372036854775807) (hT : Tabs w) :
    Calls Tryd.prog 35 #[.string s, .int .i64 st, .int .i64 en] w fun e w' => CAns ⟨(sliceB (segs s.data.toList) st en).toArray⟩ (sliceBad (segs s.data.toList).length st en) (Lib.validD s.data.toList = true) e ∧ Below w.heap.size w w' := by
  obtain ⟨vs, hvs⟩ : ∃ vs, ([s].all fun x => Lib.validD x.data.toList) = vs := ⟨_, rfl⟩
  have HS : Hid (Calls Tryd.prog 50 #[.slice (some ⟨w.heap.size, 0, none⟩) 1 1] (w.alloc (.cells #[.string s] 9)) fun e w' => e = .returned (.bool vs) ∧ Below w.heap.size w w') :=
    Lib.hid (settled_row [s] 1 rfl w (by decide) (by intro x hx; simp at hx; rw [hx]; omega) hT vs hvs)
  cases vs with
  | false =>
    clear hvs
    go_enter Tryd.func35, Tryd.ntmps35
    go_wp2_with (go_at_call 50; (with_reducible refine HS.out.mono ?_); rintro e w2 ⟨rfl, hb2⟩; dsimp only)
    go_wp2
    go_ret2
    exact ⟨.inl ⟨_, rfl⟩, hb2⟩
  | true =>
    have hv : Lib.validD s.data.toList = true := by simpa using hvs
    have HV := Lib.hid hv
    have HST := Lib.hid (sub_text s.data.toList hv)
    obtain ⟨k, hk⟩ : ∃ k, (rnsOf s.data.toList).length = k := ⟨_, rfl⟩
    have hkl := rnsOf_length_le s.data.toList
    rw [← Lib.size_eq, hk] at hkl
    have hsk : (segs s.data.toList).length = k := by rw [← hk]; simp [rnsOf]
    have HCR := Lib.hid (fun W => conv_runes s W hs)
    rw [hk] at HCR
    have HRK := Lib.hid hk
    have HSK := Lib.hid hsk
    rw [hsk]
    clear hvs hv hk hsk
    obtain ⟨b11, b12⟩ := b1
    obtain ⟨b21, b22⟩ := b2
    go_enter Tryd.func35, Tryd.ntmps35
    go_wp2_with (go_at_call 50; with_reducible refine HS.out.mono ?_)
    rintro e w2 ⟨rfl, hb2⟩
    dsimp only
    obtain ⟨CAP, W1, hcv, hcap, hra, hb1, hlt⟩ := HCR.out w2
    have HRA := Lib.hid hra
    have HBW := Lib.hid (bthen hb2 hb1)
    have HCV := Lib.hid hcv
    clear hcv hra hb1 hlt hb2
    go_wp2
    rw [HCV.out]
    by_cases c1 : st < 0
    · have HBad : Hid (sliceBad k st en = true) := Lib.hid (by unfold sliceBad; rw [decide_eq_true c1]; rfl)
      go_wp2
      go_ret2
      exact ⟨.inr (.inl ⟨HBad.out, ⟨_, rfl⟩, HV.out⟩), HBW.out⟩
    obtain ⟨a, rfl⟩ : ∃ a : Nat, st = (a : Int) := ⟨st.toNat, by omega⟩
    by_cases c2 : k < a
    · have c2z : (k : Int) < (a : Int) := by omega
      have HBad : Hid (sliceBad k (a : Int) en = true) := Lib.hid (by unfold sliceBad; rw [decide_eq_true c2z]; simp)
      clear c1
      go_wp2
      go_ret2
      exact ⟨.inr (.inl ⟨HBad.out, ⟨_, rfl⟩, HV.out⟩), HBW.out⟩
    have c2z : ¬ (k : Int) < (a : Int) := by omega
    by_cases c3 : en < 0
    · have c3z : ¬ (0 : Int) ≤ en := by omega
      have HBad : Hid (sliceBad k (a : Int) en = false) := Lib.hid (by unfold sliceBad; rw [decide_eq_false c1, decide_eq_false c2z, decide_eq_false c3z]; rfl)
      have htx : textOf ((rnsOf s.data.toList).drop a) = ⟨(sliceB (segs s.data.toList) (a : Int) en).toArray⟩ := by
        have h1 := HST.out a k
        rw [List.take_of_length_le (by rw [HRK.out]; exact Nat.le_refl _), List.take_of_length_le (by rw [HSK.out]; exact Nat.le_refl _)] at h1
        rw [h1]
        unfold sliceB
        rw [if_pos c3]
        rfl
      have hka : a ≤ k := by omega
      by_cases hac : a = CAP
      · subst hac
        have hcv2 := conv_text (some ⟨w2.heap.size, 0, none⟩) 0 ((rnsOf s.data.toList).drop a) W1 (fun j r hj => by rw [List.drop_eq_nil_of_le (by rw [HRK.out]; omega)] at hj; simp at hj)
        rw [htx, List.length_drop, HRK.out, show k - a = 0 by omega] at hcv2
        have HCV2 := Lib.hid hcv2
        clear htx hcv2 c1
        go_wp2
        rw [HCV2.out]
        go_wp2
        go_ret2
        exact ⟨.inr (.inr ⟨HBad.out, rfl, HV.out⟩), HBW.out⟩
      · have hcv2 := conv_text (some ⟨w2.heap.size, 0 + a, none⟩) (CAP - a) ((rnsOf s.data.toList).drop a) W1 (runesAt_drop HRA.out a)
        rw [htx, List.length_drop, HRK.out, Nat.zero_add] at hcv2
        have HCV2 := Lib.hid hcv2
        clear htx hcv2 c1
        go_wp2
        rw [HCV2.out]
        go_wp2
        go_ret2
        exact ⟨.inr (.inr ⟨HBad.out, rfl, HV.out⟩), HBW.out⟩
    obtain ⟨b, rfl⟩ : ∃ b : Nat, en = (b : Int) := ⟨en.toNat, by omega⟩
    by_cases c4 : b < a
    · have c4z : (b : Int) < (a : Int) := by omega
      have HBad : Hid (sliceBad k (a : Int) (b : Int) = true) := Lib.hid (by unfold sliceBad; rw [decide_eq_true c4z, decide_eq_true (show (0 : Int) ≤ (b : Int) by omega)]; simp)
      clear c1 c3
      go_wp2
      go_ret2
      exact ⟨.inr (.inl ⟨HBad.out, ⟨_, rfl⟩, HV.out⟩), HBW.out⟩
    have c4z : ¬ (b : Int) < (a : Int) := by omega
    by_cases c5 : k < b
    · have c5z : (k : Int) < (b : Int) := by omega
      have HBad : Hid (sliceBad k (a : Int) (b : Int) = true) := Lib.hid (by unfold sliceBad; rw [decide_eq_true c5z, decide_eq_true (show (0 : Int) ≤ (b : Int) by omega)]; simp)
      clear c1 c3
      go_wp2
      go_ret2
      exact ⟨.inr (.inl ⟨HBad.out, ⟨_, rfl⟩, HV.out⟩), HBW.out⟩
    have c5z : ¬ (k : Int) < (b : Int) := by omega
    have HBad : Hid (sliceBad k (a : Int) (b : Int) = false) := Lib.hid (by unfold sliceBad; rw [decide_eq_false c1, decide_eq_false c2z, decide_eq_false c4z, decide_eq_false c5z]; simp)
    have htx : textOf (((rnsOf s.data.toList).take b).drop a) = ⟨(sliceB (segs s.data.toList) (a : Int) (b : Int)).toArray⟩ := by
      rw [HST.out a b]
      unfold sliceB
      rw [if_neg c3]
      rfl
    have hab : a ≤ b := by omega
    have hbk : b ≤ k := by omega
    have hbc : b ≤ CAP := by omega
    by_cases hac : a = CAP
    · subst hac
      have hcv2 := conv_text (some ⟨w2.heap.size, 0, none⟩) 0 (((rnsOf s.data.toList).take b).drop a) W1 (fun j r hj => by rw [List.drop_eq_nil_of_le (by rw [List.length_take]; omega)] at hj; simp at hj)
      rw [htx, List.length_drop, List.length_take, HRK.out, Nat.min_eq_left (show b ≤ k by omega), show b - a = 0 by omega] at hcv2
      have HCV2 := Lib.hid hcv2
      clear htx hcv2 c1 c3
      go_wp2
      rw [HCV2.out]
      go_wp2
      go_ret2
      exact ⟨.inr (.inr ⟨HBad.out, rfl, HV.out⟩), HBW.out⟩
    · have hcv2 := conv_text (some ⟨w2.heap.size, 0 + a, none⟩) (CAP - a) (((rnsOf s.data.toList).take b).drop a) W1 (runesAt_drop (runesAt_take HRA.out b) a)
      rw [htx, List.length_drop, List.length_take, HRK.out, Nat.min_eq_left (show b ≤ k by omega), Nat.zero_add] at hcv2
      have HCV2 := Lib.hid hcv2
      clear htx hcv2 c1 c3
      go_wp2
      rw [HCV2.out]
      go_wp2
      go_ret2
      exact ⟨.inr (.inr ⟨HBad.out, rfl, HV.out⟩), HBW.out⟩
end Go.Proofs.YtobcoplfniojkaaDoor
