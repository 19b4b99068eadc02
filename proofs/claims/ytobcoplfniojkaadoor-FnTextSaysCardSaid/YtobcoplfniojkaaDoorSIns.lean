/- The walk of spec.Insert. -/
import Derived.Test.YtobcoplfniojkaaDoorSSlice
import Derived.Deep.QuietTactic
import Derived.BigQuiet
set_option linter.unusedVariables false
namespace Go.Proofs.YtobcoplfniojkaaDoor
open Go.RowKit Plain

theorem flat_take_le (cs : List (List UInt8)) (i : Nat) : ((cs.take i).flatten).length + ((cs.drop i).flatten).length = cs.flatten.length := by
  rw [← List.length_append, ← List.flatten_append, List.take_append_drop]
set_option maxHeartbeats 8000000 in
set_option maxRecDepth 100000 in
theorem specInsert_any (s p : ByteArray) (n : Int) (w : World) (hs : s.size ≤ 2147483647) (hps : p.size ≤ 2147483647) (b1 : -9223372036854775808 ≤ n ∧ n ≤ 9223372036854775807) (hT : Tabs w) :
    Calls Tryd.prog 36 #[.string s, .string p, .int .i64 n] w fun e w' => CAns ⟨(insB (segs s.data.toList) p n).toArray⟩ (insBad (segs s.data.toList).length n) (Lib.validD s.data.toList = true ∧ Lib.validD p.data.toList = true) e ∧ Below w.heap.size w w' := by
  obtain ⟨vs, hvs⟩ : ∃ vs, ([s, p].all fun x => Lib.validD x.data.toList) = vs := ⟨_, rfl⟩
  have HS : Hid (Calls Tryd.prog 50 #[.slice (some ⟨w.heap.size, 0, none⟩) 2 2] (w.alloc (.cells #[.string s, .string p] 9)) fun e w' => e = .returned (.bool vs) ∧ Below w.heap.size w w') :=
    Lib.hid (settled_row [s, p] 2 rfl w (by decide) (by intro x hx; simp at hx; rcases hx with rfl | rfl <;> omega) hT vs hvs)
  cases vs with
  | false =>
    clear hvs
    go_enter Tryd.func36, Tryd.ntmps36
    go_wp2_with (go_at_call 50; (with_reducible refine HS.out.mono ?_); rintro e w2 ⟨rfl, hb2⟩; dsimp only)
    go_wp2
    go_ret2
    exact ⟨.inl ⟨_, rfl⟩, hb2⟩
  | true =>
    have hv : Lib.validD s.data.toList = true ∧ Lib.validD p.data.toList = true := by simpa using hvs
    have HV := Lib.hid hv
    have HST := Lib.hid (sub_text s.data.toList hv.1)
    obtain ⟨k, hk⟩ : ∃ k, (rnsOf s.data.toList).length = k := ⟨_, rfl⟩
    have hkl := rnsOf_length_le s.data.toList
    rw [← Lib.size_eq, hk] at hkl
    have hsk : (segs s.data.toList).length = k := by rw [← hk]; simp [rnsOf]
    have HCR := Lib.hid (fun W => conv_runes s W hs)
    rw [hk] at HCR
    have HRK := Lib.hid hk
    have HSK := Lib.hid hsk
    rw [hsk]
    clear hvs hv hk hsk
    obtain ⟨b11, b12⟩ := b1
    go_enter Tryd.func36, Tryd.ntmps36
    go_wp2_with (go_at_call 50; with_reducible refine HS.out.mono ?_)
    rintro e w2 ⟨rfl, hb2⟩
    dsimp only
    obtain ⟨CAP, W1, hcv, hcap, hra, hb1, hlt⟩ := HCR.out w2
    have HRA := Lib.hid hra
    have HBW := Lib.hid (bthen hb2 hb1)
    have HCV := Lib.hid hcv
    clear hcv hra hb1 hlt hb2
    go_wp2
    rw [HCV.out]
    by_cases c1 : n < 0
    · have HBad : Hid (insBad k n = true) := Lib.hid (by unfold insBad; rw [decide_eq_true c1]; rfl)
      go_wp2
      go_ret2
      exact ⟨.inr (.inl ⟨HBad.out, ⟨_, rfl⟩, HV.out⟩), HBW.out⟩
    obtain ⟨a, rfl⟩ : ∃ a : Nat, n = (a : Int) := ⟨n.toNat, by omega⟩
    by_cases c2 : k < a
    · have c2z : (k : Int) < (a : Int) := by omega
      have HBad : Hid (insBad k (a : Int) = true) := Lib.hid (by unfold insBad; rw [decide_eq_true c2z]; simp)
      clear c1
      go_wp2
      go_ret2
      exact ⟨.inr (.inl ⟨HBad.out, ⟨_, rfl⟩, HV.out⟩), HBW.out⟩
    have c2z : ¬ (k : Int) < (a : Int) := by omega
    have HBad : Hid (insBad k (a : Int) = false) := Lib.hid (by unfold insBad; rw [decide_eq_false c1, decide_eq_false c2z]; rfl)
    have hka : a ≤ k := by omega
    have hac0 : a ≤ CAP := by omega
    have hx1 := HST.out 0 a
    rw [List.drop_zero, List.drop_zero] at hx1
    have hx2 := HST.out a k
    rw [List.take_of_length_le (by rw [HRK.out]; exact Nat.le_refl _), List.take_of_length_le (by rw [HSK.out]; exact Nat.le_refl _)] at hx2
    have hfl := flat_take_le (segs s.data.toList) a
    rw [segs_flatten, ← Lib.size_eq] at hfl
    obtain ⟨X, hX⟩ : ∃ X : ByteArray, (⟨((segs s.data.toList).take a).flatten.toArray⟩ : ByteArray) = X := ⟨_, rfl⟩
    obtain ⟨Y, hY⟩ : ∃ Y : ByteArray, (⟨((segs s.data.toList).drop a).flatten.toArray⟩ : ByteArray) = Y := ⟨_, rfl⟩
    rw [hX] at hx1
    rw [hY] at hx2
    have hXs : X.size = (((segs s.data.toList).take a).flatten).length := by rw [← hX, Lib.size_eq]
    have hYs : Y.size = (((segs s.data.toList).drop a).flatten).length := by rw [← hY, Lib.size_eq]
    have HE : Hid (X ++ p ++ Y = ⟨(insB (segs s.data.toList) p (a : Int)).toArray⟩) := Lib.hid (by
      rw [← hX, ← hY]
      unfold insB
      apply ByteArray.ext
      apply Array.toList_inj.1
      simp)
    have hsum1 : (X.size : Int) + (p.size : Int) ≤ 9223372036854775807 := by omega
    have hXp : (X ++ p).size = X.size + p.size := ByteArray.size_append
    have hsum2 : ((X ++ p).size : Int) + (Y.size : Int) ≤ 9223372036854775807 := by omega
    have hcv1 : ∀ m, (convert 24 9 (.slice (some ⟨w2.heap.size, 0, none⟩) a CAP)).run Tryd.prog (W1.drewN m) = .ok (.string X) (W1.drewN m) := fun m => by
      have := conv_text (some ⟨w2.heap.size, 0, none⟩) CAP ((rnsOf s.data.toList).take a) (W1.drewN m) (runesAt_take HRA.out a)
      rw [hx1, List.length_take, HRK.out, Nat.min_eq_left hka] at this
      exact this
    by_cases hac : a = CAP
    · subst hac
      have hcv2 : ∀ m, (convert 24 9 (.slice (some ⟨w2.heap.size, 0, none⟩) 0 0)).run Tryd.prog (W1.drewN m) = .ok (.string Y) (W1.drewN m) := fun m => by
        have := conv_text (some ⟨w2.heap.size, 0, none⟩) 0 ((rnsOf s.data.toList).drop a) (W1.drewN m) (fun j r hj => by rw [List.drop_eq_nil_of_le (by rw [HRK.out]; omega)] at hj; simp at hj)
        rw [hx2, List.length_drop, HRK.out, show k - a = 0 by omega] at this
        exact this
      clear hx1 hx2 hX hY hXs hYs hfl hXp c1
      go_wp2_with fail
      go_quiet (fail)
      go_wp2_with fail
      go_ret2
      exact ⟨.inr (.inr ⟨HBad.out, congrArg (fun z => Ending.returned (.tuple #[.string z, .int .i64 1])) HE.out, HV.out⟩), bthen HBW.out ⟨rfl, rfl, rfl, Nat.le_refl _, fun _ _ => rfl⟩⟩
    · have hac2 : a < CAP := by omega
      have hcv2 : ∀ m, (convert 24 9 (.slice (some ⟨w2.heap.size, a, none⟩) (k - a) (CAP - a))).run Tryd.prog (W1.drewN m) = .ok (.string Y) (W1.drewN m) := fun m => by
        have := conv_text (some ⟨w2.heap.size, 0 + a, none⟩) (CAP - a) ((rnsOf s.data.toList).drop a) (W1.drewN m) (runesAt_drop HRA.out a)
        rw [hx2, List.length_drop, HRK.out, Nat.zero_add] at this
        exact this
      clear hx1 hx2 hX hY hXs hYs hfl hXp c1
      go_wp2_with fail
      go_quiet (fail)
      go_wp2_with fail
      go_ret2
      exact ⟨.inr (.inr ⟨HBad.out, congrArg (fun z => Ending.returned (.tuple #[.string z, .int .i64 1])) HE.out, HV.out⟩), bthen HBW.out ⟨rfl, rfl, rfl, Nat.le_refl _, fun _ _ => rfl⟩⟩
end Go.Proofs.YtobcoplfniojkaaDoor
