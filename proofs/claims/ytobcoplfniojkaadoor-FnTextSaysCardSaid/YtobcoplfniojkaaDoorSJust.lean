/- The walks of spec.LeftJustify, spec.RightJustify and spec.Center. -/
import Derived.Test.YtobcoplfniojkaaDoorSFill
set_option linter.unusedVariables false
namespace Go.Proofs.YtobcoplfniojkaaDoor
open Go.RowKit Plain

/-- the answer: open, or the text -/
def SAns (r : ByteArray) (v : Prop) (e : Ending) : Prop := (∃ z, e = .returned (.tuple #[.string z, .int .i64 2])) ∨ (e = .returned (.tuple #[.string r, .int .i64 1]) ∧ v)
theorem sj_emp {p : ByteArray} (h : p.size = 0) : p.toList.isEmpty = true ∧ p.data.toList = [] := by
  have hl : p.data.toList = [] := List.eq_nil_of_length_eq_zero (by rw [← Lib.size_eq]; exact h)
  exact ⟨by rw [ByteArray.toList_eq, hl]; rfl, hl⟩
theorem sj_ne {p : ByteArray} (h : ¬ p.size = 0) : p.toList.isEmpty = false ∧ p.data.toList ≠ [] := by
  have hl : p.data.toList ≠ [] := fun e => h (by rw [Lib.size_eq, e]; rfl)
  exact ⟨ne_empty hl, hl⟩
theorem sj_room {p : ByteArray} {k : Nat} (hp : p.size ≤ 2147483647) (hk : k ≤ 16384) : (⟨(padOf (segs p.data.toList) k).toArray⟩ : ByteArray).size ≤ 35190000000000 := by
  rw [Lib.size_eq]
  have h1 := padOf_length (segs p.data.toList) k
  rw [segs_flatten, ← Lib.size_eq] at h1
  exact Nat.le_trans h1 (room (S := 0) (N := (segs p.data.toList).length) (by decide) hp hk).2
theorem sj_same {s : ByteArray} {l : List UInt8} (h : l = s.data.toList) : s = ⟨l.toArray⟩ := by subst h; rfl

set_option maxHeartbeats 4000000 in
set_option maxRecDepth 100000 in
theorem specLeft_any (s : ByteArray) (n : Int) (p : ByteArray) (w : World) (hs : s.size ≤ 2147483647) (hps : p.size ≤ 2147483647) (hn : n ≤ 16384) (hn0 : -9223372036854775808 ≤ n) (hT : Tabs w) :
    Calls Tryd.prog 26 #[.string s, .int .i64 n, .string p] w fun e w' => SAns ⟨(leftB s.data.toList p.data.toList n).toArray⟩ (Lib.validD s.data.toList = true ∧ Lib.validD p.data.toList = true) e ∧ Below w.heap.size w w' := by
  obtain ⟨vs, hvs⟩ : ∃ vs, ([s, p].all fun x => Lib.validD x.data.toList) = vs := ⟨_, rfl⟩
  have HS : Hid (Calls Tryd.prog 50 #[.slice (some ⟨w.heap.size, 0, none⟩) 2 2] (w.alloc (.cells #[.string s, .string p] 9)) fun e w' => e = .returned (.bool vs) ∧ Below w.heap.size w w') :=
    Lib.hid (settled_row [s, p] 2 rfl w (by decide) (by intro x hx; simp at hx; rcases hx with rfl | rfl <;> omega) hT vs hvs)
  cases vs with
  | false =>
    clear hvs
    go_enter Tryd.func26, Tryd.ntmps26
    go_wp2_with (go_at_call 50; (with_reducible refine HS.out.mono ?_); rintro e w2 ⟨rfl, hb2⟩; dsimp only)
    go_wp2
    go_ret2
    exact ⟨.inl ⟨_, rfl⟩, hb2⟩
  | true =>
    have hv : Lib.validD s.data.toList = true ∧ Lib.validD p.data.toList = true := by simpa using hvs
    have HV := Lib.hid hv
    obtain ⟨k, hk⟩ : ∃ k, (rnsOf s.data.toList).length = k := ⟨_, rfl⟩
    have hkl := rnsOf_length_le s.data.toList
    rw [← Lib.size_eq, hk] at hkl
    have HK : Hid ((segs s.data.toList).length = k) := Lib.hid (by rw [← hk]; simp [rnsOf])
    have HCR := Lib.hid (fun W => conv_runes s W hs)
    rw [hk] at HCR
    clear hvs hv hk
    go_enter Tryd.func26, Tryd.ntmps26
    go_wp2_with (go_at_call 50; with_reducible refine HS.out.mono ?_)
    rintro e w2 ⟨rfl, hb2⟩
    dsimp only
    obtain ⟨CAP, W1, hcv, hcap, hra, hb1, hlt⟩ := HCR.out w2
    have HB2 := Lib.hid hb2
    have HB1 := Lib.hid hb1
    have HBW := Lib.hid (bthen hb2 hb1)
    have HCV := Lib.hid hcv
    clear hcv hra hb1 hlt hb2
    go_wp2
    rw [HCV.out]
    by_cases c1 : n ≤ (k : Int)
    · have HE : Hid (s = ⟨(leftB s.data.toList p.data.toList n).toArray⟩) := Lib.hid (sj_same (by unfold leftB; rw [HK.out, if_pos (Or.inl c1)]))
      go_wp2
      go_ret2
      exact ⟨.inr ⟨congrArg (fun z => Ending.returned (.tuple #[.string z, .int .i64 1])) HE.out, HV.out⟩, HBW.out⟩
    · by_cases hp0 : p.size = 0
      · obtain ⟨pe, pn⟩ := sj_emp hp0
        have HE : Hid (s = ⟨(leftB s.data.toList p.data.toList n).toArray⟩) := Lib.hid (sj_same (by unfold leftB; rw [if_pos (Or.inr pn)]))
        clear pn
        go_wp2
        go_ret2
        exact ⟨.inr ⟨congrArg (fun z => Ending.returned (.tuple #[.string z, .int .i64 1])) HE.out, HV.out⟩, HBW.out⟩
      · obtain ⟨pe, pn⟩ := sj_ne hp0
        have HPN := Lib.hid pn
        obtain ⟨d, hd⟩ : ∃ d : Nat, n - (k : Int) = (d : Int) := ⟨(n - (k : Int)).toNat, by omega⟩
        have hd2 : d ≤ 16384 := by omega
        have hd3 : n = (k : Int) + (d : Int) := by omega
        have HLK : Hid (lack s.data.toList n = d) := Lib.hid (by unfold lack; rw [HK.out]; omega)
        have HRB : Hid (leftB s.data.toList p.data.toList n = s.data.toList ++ padOf (segs p.data.toList) d) := Lib.hid (by unfold leftB; rw [HK.out, if_neg (fun y => y.elim c1 HPN.out), HLK.out])
        clear pn hd3
        have HF := Lib.hid (fun W => fill_any p d W (by omega) hps HV.out.2 (by omega))
        have hFs := sj_room (p := p) (k := d) hps hd2
        obtain ⟨F, hF⟩ : ∃ F, (⟨(padOf (segs p.data.toList) d).toArray⟩ : ByteArray) = F := ⟨_, rfl⟩
        rw [hF] at hFs HF
        have HFE := Lib.hid hF
        have hsum1 : (s.size : Int) + (F.size : Int) ≤ 9223372036854775807 := by omega
        have hsum2 : (F.size : Int) + (s.size : Int) ≤ 9223372036854775807 := by omega
        have HE : Hid (s ++ F = ⟨(leftB s.data.toList p.data.toList n).toArray⟩) := Lib.hid (by
          rw [HRB.out, ← HFE.out]
          apply ByteArray.ext
          apply Array.toList_inj.1
          simp)
        clear hF
        go_wp2_with (go_at_call 51; (with_reducible refine (HF.out _).mono ?_); rintro e w3 ⟨rfl, hb3⟩; dsimp only)
        go_wp2
        go_ret2
        exact ⟨.inr ⟨congrArg (fun z => Ending.returned (.tuple #[.string z, .int .i64 1])) HE.out, HV.out⟩, bthen HBW.out hb3⟩

set_option maxHeartbeats 4000000 in
set_option maxRecDepth 100000 in
theorem specRight_any (s : ByteArray) (n : Int) (p : ByteArray) (w : World) (hs : s.size ≤ 2147483647) (hps : p.size ≤ 2147483647) (hn : n ≤ 16384) (hn0 : -9223372036854775808 ≤ n) (hT : Tabs w) :
    Calls Tryd.prog 27 #[.string s, .int .i64 n, .string p] w fun e w' => SAns ⟨(rightB s.data.toList p.data.toList n).toArray⟩ (Lib.validD s.data.toList = true ∧ Lib.validD p.data.toList = true) e ∧ Below w.heap.size w w' := by
  obtain ⟨vs, hvs⟩ : ∃ vs, ([s, p].all fun x => Lib.validD x.data.toList) = vs := ⟨_, rfl⟩
  have HS : Hid (Calls Tryd.prog 50 #[.slice (some ⟨w.heap.size, 0, none⟩) 2 2] (w.alloc (.cells #[.string s, .string p] 9)) fun e w' => e = .returned (.bool vs) ∧ Below w.heap.size w w') :=
    Lib.hid (settled_row [s, p] 2 rfl w (by decide) (by intro x hx; simp at hx; rcases hx with rfl | rfl <;> omega) hT vs hvs)
  cases vs with
  | false =>
    clear hvs
    go_enter Tryd.func27, Tryd.ntmps27
    go_wp2_with (go_at_call 50; (with_reducible refine HS.out.mono ?_); rintro e w2 ⟨rfl, hb2⟩; dsimp only)
    go_wp2
    go_ret2
    exact ⟨.inl ⟨_, rfl⟩, hb2⟩
  | true =>
    have hv : Lib.validD s.data.toList = true ∧ Lib.validD p.data.toList = true := by simpa using hvs
    have HV := Lib.hid hv
    obtain ⟨k, hk⟩ : ∃ k, (rnsOf s.data.toList).length = k := ⟨_, rfl⟩
    have hkl := rnsOf_length_le s.data.toList
    rw [← Lib.size_eq, hk] at hkl
    have HK : Hid ((segs s.data.toList).length = k) := Lib.hid (by rw [← hk]; simp [rnsOf])
    have HCR := Lib.hid (fun W => conv_runes s W hs)
    rw [hk] at HCR
    clear hvs hv hk
    go_enter Tryd.func27, Tryd.ntmps27
    go_wp2_with (go_at_call 50; with_reducible refine HS.out.mono ?_)
    rintro e w2 ⟨rfl, hb2⟩
    dsimp only
    obtain ⟨CAP, W1, hcv, hcap, hra, hb1, hlt⟩ := HCR.out w2
    have HB2 := Lib.hid hb2
    have HB1 := Lib.hid hb1
    have HBW := Lib.hid (bthen hb2 hb1)
    have HCV := Lib.hid hcv
    clear hcv hra hb1 hlt hb2
    go_wp2
    rw [HCV.out]
    by_cases c1 : n ≤ (k : Int)
    · have HE : Hid (s = ⟨(rightB s.data.toList p.data.toList n).toArray⟩) := Lib.hid (sj_same (by unfold rightB; rw [HK.out, if_pos (Or.inl c1)]))
      go_wp2
      go_ret2
      exact ⟨.inr ⟨congrArg (fun z => Ending.returned (.tuple #[.string z, .int .i64 1])) HE.out, HV.out⟩, HBW.out⟩
    · by_cases hp0 : p.size = 0
      · obtain ⟨pe, pn⟩ := sj_emp hp0
        have HE : Hid (s = ⟨(rightB s.data.toList p.data.toList n).toArray⟩) := Lib.hid (sj_same (by unfold rightB; rw [if_pos (Or.inr pn)]))
        clear pn
        go_wp2
        go_ret2
        exact ⟨.inr ⟨congrArg (fun z => Ending.returned (.tuple #[.string z, .int .i64 1])) HE.out, HV.out⟩, HBW.out⟩
      · obtain ⟨pe, pn⟩ := sj_ne hp0
        have HPN := Lib.hid pn
        obtain ⟨d, hd⟩ : ∃ d : Nat, n - (k : Int) = (d : Int) := ⟨(n - (k : Int)).toNat, by omega⟩
        have hd2 : d ≤ 16384 := by omega
        have hd3 : n = (k : Int) + (d : Int) := by omega
        have HLK : Hid (lack s.data.toList n = d) := Lib.hid (by unfold lack; rw [HK.out]; omega)
        have HRB : Hid (rightB s.data.toList p.data.toList n = padOf (segs p.data.toList) d ++ s.data.toList) := Lib.hid (by unfold rightB; rw [HK.out, if_neg (fun y => y.elim c1 HPN.out), HLK.out])
        clear pn hd3
        have HF := Lib.hid (fun W => fill_any p d W (by omega) hps HV.out.2 (by omega))
        have hFs := sj_room (p := p) (k := d) hps hd2
        obtain ⟨F, hF⟩ : ∃ F, (⟨(padOf (segs p.data.toList) d).toArray⟩ : ByteArray) = F := ⟨_, rfl⟩
        rw [hF] at hFs HF
        have HFE := Lib.hid hF
        have hsum1 : (s.size : Int) + (F.size : Int) ≤ 9223372036854775807 := by omega
        have hsum2 : (F.size : Int) + (s.size : Int) ≤ 9223372036854775807 := by omega
        have HE : Hid (F ++ s = ⟨(rightB s.data.toList p.data.toList n).toArray⟩) := Lib.hid (by
          rw [HRB.out, ← HFE.out]
          apply ByteArray.ext
          apply Array.toList_inj.1
          simp)
        clear hF
        go_wp2_with (go_at_call 51; (with_reducible refine (HF.out _).mono ?_); rintro e w3 ⟨rfl, hb3⟩; dsimp only)
        go_wp2
        go_ret2
        exact ⟨.inr ⟨congrArg (fun z => Ending.returned (.tuple #[.string z, .int .i64 1])) HE.out, HV.out⟩, bthen HBW.out hb3⟩

set_option maxHeartbeats 4000000 in
set_option maxRecDepth 100000 in
theorem specCenter_any (s : ByteArray) (n : Int) (p : ByteArray) (w : World) (hs : s.size ≤ 2147483647) (hps : p.size ≤ 2147483647) (hn : n ≤ 16384) (hn0 : -9223372036854775808 ≤ n) (hT : Tabs w) :
    Calls Tryd.prog 28 #[.string s, .int .i64 n, .string p] w fun e w' => SAns ⟨(centerB s.data.toList p.data.toList n).toArray⟩ (Lib.validD s.data.toList = true ∧ Lib.validD p.data.toList = true) e ∧ Below w.heap.size w w' := by
  obtain ⟨vs, hvs⟩ : ∃ vs, ([s, p].all fun x => Lib.validD x.data.toList) = vs := ⟨_, rfl⟩
  have HS : Hid (Calls Tryd.prog 50 #[.slice (some ⟨w.heap.size, 0, none⟩) 2 2] (w.alloc (.cells #[.string s, .string p] 9)) fun e w' => e = .returned (.bool vs) ∧ Below w.heap.size w w') :=
    Lib.hid (settled_row [s, p] 2 rfl w (by decide) (by intro x hx; simp at hx; rcases hx with rfl | rfl <;> omega) hT vs hvs)
  cases vs with
  | false =>
    clear hvs
    go_enter Tryd.func28, Tryd.ntmps28
    go_wp2_with (go_at_call 50; (with_reducible refine HS.out.mono ?_); rintro e w2 ⟨rfl, hb2⟩; dsimp only)
    go_wp2
    go_ret2
    exact ⟨.inl ⟨_, rfl⟩, hb2⟩
  | true =>
    have hv : Lib.validD s.data.toList = true ∧ Lib.validD p.data.toList = true := by simpa using hvs
    have HV := Lib.hid hv
    obtain ⟨k, hk⟩ : ∃ k, (rnsOf s.data.toList).length = k := ⟨_, rfl⟩
    have hkl := rnsOf_length_le s.data.toList
    rw [← Lib.size_eq, hk] at hkl
    have HK : Hid ((segs s.data.toList).length = k) := Lib.hid (by rw [← hk]; simp [rnsOf])
    have HCR := Lib.hid (fun W => conv_runes s W hs)
    rw [hk] at HCR
    clear hvs hv hk
    go_enter Tryd.func28, Tryd.ntmps28
    go_wp2_with (go_at_call 50; with_reducible refine HS.out.mono ?_)
    rintro e w2 ⟨rfl, hb2⟩
    dsimp only
    obtain ⟨CAP, W1, hcv, hcap, hra, hb1, hlt⟩ := HCR.out w2
    have HB2 := Lib.hid hb2
    have HB1 := Lib.hid hb1
    have HBW := Lib.hid (bthen hb2 hb1)
    have HCV := Lib.hid hcv
    clear hcv hra hb1 hlt hb2
    go_wp2
    rw [HCV.out]
    by_cases c1 : n ≤ (k : Int)
    · have HE : Hid (s = ⟨(centerB s.data.toList p.data.toList n).toArray⟩) := Lib.hid (sj_same (by unfold centerB; rw [HK.out, if_pos (Or.inl c1)]))
      go_wp2
      go_ret2
      exact ⟨.inr ⟨congrArg (fun z => Ending.returned (.tuple #[.string z, .int .i64 1])) HE.out, HV.out⟩, HBW.out⟩
    · by_cases hp0 : p.size = 0
      · obtain ⟨pe, pn⟩ := sj_emp hp0
        have HE : Hid (s = ⟨(centerB s.data.toList p.data.toList n).toArray⟩) := Lib.hid (sj_same (by unfold centerB; rw [if_pos (Or.inr pn)]))
        clear pn
        go_wp2
        go_ret2
        exact ⟨.inr ⟨congrArg (fun z => Ending.returned (.tuple #[.string z, .int .i64 1])) HE.out, HV.out⟩, HBW.out⟩
      · obtain ⟨pe, pn⟩ := sj_ne hp0
        have HPN := Lib.hid pn
        obtain ⟨d, hd⟩ : ∃ d : Nat, n - (k : Int) = (d : Int) := ⟨(n - (k : Int)).toNat, by omega⟩
        have hd2 : d ≤ 16384 := by omega
        have hd3 : n = (k : Int) + (d : Int) := by omega
        have HLK : Hid (lack s.data.toList n = d) := Lib.hid (by unfold lack; rw [HK.out]; omega)
        have HRB : Hid (centerB s.data.toList p.data.toList n = padOf (segs p.data.toList) (d / 2) ++ s.data.toList ++ padOf (segs p.data.toList) ((d + 1) / 2)) := Lib.hid (by unfold centerB; rw [HK.out, if_neg (fun y => y.elim c1 HPN.out), HLK.out])
        clear pn hd3
        obtain ⟨q, hq⟩ : ∃ q, d / 2 = q := ⟨_, rfl⟩
        obtain ⟨r, hr⟩ : ∃ r, (d + 1) / 2 = r := ⟨_, rfl⟩
        have hqz : Int.tdiv (d : Int) 2 = (q : Int) := by rw [← hq]; rfl
        have hrz : (d : Int) - (q : Int) = (r : Int) := by omega
        have HF1 := Lib.hid (fun W => fill_any p q W (by omega) hps HV.out.2 (by omega))
        have HF2 := Lib.hid (fun W => fill_any p r W (by omega) hps HV.out.2 (by omega))
        have hFs := sj_room (p := p) (k := q) hps (by omega)
        have hGs := sj_room (p := p) (k := r) hps (by omega)
        rw [hq, hr] at HRB
        obtain ⟨F, hF⟩ : ∃ F, (⟨(padOf (segs p.data.toList) q).toArray⟩ : ByteArray) = F := ⟨_, rfl⟩
        rw [hF] at hFs HF1
        have HFE := Lib.hid hF
        obtain ⟨G, hG⟩ : ∃ G, (⟨(padOf (segs p.data.toList) r).toArray⟩ : ByteArray) = G := ⟨_, rfl⟩
        rw [hG] at hGs HF2
        have HGE := Lib.hid hG
        have hsum1 : (F.size : Int) + (s.size : Int) ≤ 9223372036854775807 := by omega
        have hFS : (F ++ s).size = F.size + s.size := ByteArray.size_append
        have hsum2 : ((F ++ s).size : Int) + (G.size : Int) ≤ 9223372036854775807 := by omega
        have HE : Hid (F ++ s ++ G = ⟨(centerB s.data.toList p.data.toList n).toArray⟩) := Lib.hid (by
          rw [HRB.out, ← HFE.out, ← HGE.out]
          apply ByteArray.ext
          apply Array.toList_inj.1
          simp)
        clear hF hG hq hr hFS
        go_wp2_with (go_at_call 51; (with_reducible refine (HF1.out _).mono ?_); rintro e w3 ⟨rfl, hb3⟩; dsimp only)
        go_wp2_with (go_at_call 51; (with_reducible refine (HF2.out _).mono ?_); rintro e w4 ⟨rfl, hb4⟩; dsimp only)
        go_wp2
        go_ret2
        exact ⟨.inr ⟨congrArg (fun z => Ending.returned (.tuple #[.string z, .int .i64 1])) HE.out, HV.out⟩, bthen (bthen HBW.out hb3) hb4⟩
end Go.Proofs.YtobcoplfniojkaaDoor
