/- The lexer's state lexKey. -/
import Derived.Test.YtackciefmdiphaaGreatDoorLexSt1
import Derived.Handy
import Derived.WalkMore
set_option linter.unusedVariables false
namespace Go.Proofs.YtackciefmdiphaaGreatDoor
open Go.RowKit Plain

theorem errStr_any (N : Nat) (q : ByteArray) (w : World) (hc : w.cell? ⟨N, 0, none⟩ = some (.string q)) :
    Calls Tryz.prog 211 #[.pointer (some ⟨N, 0, none⟩)] w fun e w' => e = .returned (.string q) ∧ w = w' := by
  go_enter Tryz.func211, Tryz.ntmps211
  go_wp2
  go_ret
  exact ⟨rfl, rfl⟩
theorem keyL_eof {s : ByteArray} {p : Nat} {acc : List Nat} (h : ¬ p < s.size) : keyL s p acc = .ok (acc, p, true) := by rw [keyL, dif_neg h]
theorem keyL_end {s : ByteArray} {p : Nat} {acc : List Nat} (h : p < s.size) (h1 : ¬ rAt s p = 92) (h2 : endK (rAt s p) = true) : keyL s p acc = .ok (acc, p, false) := by rw [keyL, dif_pos h, if_neg h1, if_pos h2]
theorem keyL_chr {s : ByteArray} {p : Nat} {acc : List Nat} (h : p < s.size) (h1 : ¬ rAt s p = 92) (h2 : endK (rAt s p) = false) : keyL s p acc = keyL s (p + kAt s p) (acc ++ [rAt s p]) := by rw [keyL, dif_pos h, if_neg h1, if_neg (by rw [h2]; decide)]
theorem keyL_esc {s : ByteArray} {p : Nat} {acc : List Nat} (h : p < s.size) (h1 : rAt s p = 92) (x : Nat × Nat) (h2 : scanE s (p + kAt s p) = some x) : keyL s p acc = keyL s x.2 (acc ++ [x.1]) := by
  rw [keyL, dif_pos h, if_pos h1]
  split
  · rename_i hE; rw [hE] at h2; cases h2
  · rename_i y hE; rw [hE] at h2; injection h2 with h2; subst h2; rfl
theorem keyL_bad {s : ByteArray} {p : Nat} {acc : List Nat} (h : p < s.size) (h1 : rAt s p = 92) (h2 : scanE s (p + kAt s p) = none) : keyL s p acc = .error (badEsc s (p + kAt s p)) := by
  rw [keyL, dif_pos h, if_pos h1]
  split
  · rfl
  · rename_i y hE; rw [hE] at h2; cases h2
theorem valL_eof {s : ByteArray} {p : Nat} {acc : List Nat} (h : ¬ p < s.size) : valL s p acc = .ok (acc, p, true) := by rw [valL, dif_neg h]
theorem valL_end {s : ByteArray} {p : Nat} {acc : List Nat} (h : p < s.size) (h1 : ¬ rAt s p = 92) (h2 : eolR (rAt s p) = true) : valL s p acc = .ok (acc, p + kAt s p, false) := by rw [valL, dif_pos h, if_neg h1, if_pos h2]
theorem valL_chr {s : ByteArray} {p : Nat} {acc : List Nat} (h : p < s.size) (h1 : ¬ rAt s p = 92) (h2 : eolR (rAt s p) = false) : valL s p acc = valL s (p + kAt s p) (acc ++ [rAt s p]) := by rw [valL, dif_pos h, if_neg h1, if_neg (by rw [h2]; decide)]
theorem valL_on {s : ByteArray} {p : Nat} {acc : List Nat} (h : p < s.size) (h1 : rAt s p = 92) (h2 : p + kAt s p < s.size) (h3 : eolR (rAt s (p + kAt s p)) = true) : valL s p acc = valL s (skipW s (p + kAt s p + kAt s (p + kAt s p))) acc := by rw [valL, dif_pos h, if_pos h1, dif_pos ⟨h2, h3⟩]
theorem valL_esc {s : ByteArray} {p : Nat} {acc : List Nat} (h : p < s.size) (h1 : rAt s p = 92) (h0 : ¬ (p + kAt s p < s.size ∧ eolR (rAt s (p + kAt s p)) = true)) (x : Nat × Nat) (h2 : scanE s (p + kAt s p) = some x) : valL s p acc = valL s x.2 (acc ++ [x.1]) := by
  rw [valL, dif_pos h, if_pos h1, dif_neg h0]
  split
  · rename_i hE; rw [hE] at h2; cases h2
  · rename_i y hE; rw [hE] at h2; injection h2 with h2; subst h2; rfl
theorem valL_bad {s : ByteArray} {p : Nat} {acc : List Nat} (h : p < s.size) (h1 : rAt s p = 92) (h0 : ¬ (p + kAt s p < s.size ∧ eolR (rAt s (p + kAt s p)) = true)) (h2 : scanE s (p + kAt s p) = none) : valL s p acc = .error (badEsc s (p + kAt s p)) := by
  rw [valL, dif_pos h, if_pos h1, dif_neg h0]
  split
  · rfl
  · rename_i y hE; rw [hE] at h2; cases h2
set_option maxHeartbeats 8000000 in
set_option maxRecDepth 100000 in
theorem key_any (B lb pos start : Nat) (s : ByteArray) (its : List LI) (w : World) (h : LY B lb s pos start [] its w) (hs : s.size ≤ 2147483647) (hp2 : pos ≤ s.size) (hi : its.length ≤ 900000) (hT : TabsL B w) (hst : start = pos) (r : List LI × Option (NX × Nat)) (hr : lexS s .key pos = r) :
    Calls Tryz.prog 123 #[.pointer (some ⟨lb, 0, none⟩)] w (StPost B lb s its r w) := by
  subst hst
  have HB0 : Hid (Below B w w) := Lib.hid (Below.refl B w)
  have HT := Lib.hid hT
  have HY0 := Lib.hid h
  unfold lexS at hr
  dsimp only at hr
  obtain ⟨T, hTT⟩ : ∃ T, keyL s start [] = T := ⟨_, rfl⟩
  rw [hTT] at hr
  have HTT := Lib.hid hTT
  have HRR := Lib.hid hr
  clear h hT hr hTT
  go_enter Tryz.func123, Tryz.ntmps123
  go_wp2
  go_step3
  go_wp2
  go_step3
  go_wp2
  go_loopg [3] (s.size - start + 1) (fun g rv wr => ∃ (p : Nat) (acc : List Nat), g = s.size - p + 1 ∧ p ≤ s.size ∧ Hid (acc.length ≤ p) ∧ Hid (acc = [] → p = start) ∧ Hid (LY B lb s p start acc its wr) ∧ Hid (Below B w wr) ∧ Hid (keyL s p acc = T))
  case atStart => exact ⟨start, [], rfl, hp2, Nat.zero_le _, Lib.hid (fun _ => rfl), HY0, HB0, HTT⟩
  case round =>
    obtain ⟨p, acc, rfl, hp, HA, HN0, HYL, HBL, HC⟩ := hrel
    have hTr := HT.out.below HBL.out
    by_cases hlt : p < s.size
    · obtain ⟨R, hR⟩ : ∃ R, rAt s p = R := ⟨_, rfl⟩
      obtain ⟨K, hK⟩ : ∃ K, kAt s p = K := ⟨_, rfl⟩
      have hok := rAt_ok s p
      have hk := kAt_pos s p hlt
      have hC := HC.out
      rw [hR] at hok
      rw [hK] at hk
      have HN := Lib.hid (nextY_at B lb p start s acc its wr HYL.out hs hlt hTr R K hR hK)
      have TE := Lib.hid (fun w => isEOF_at R w)
      by_cases h92 : R = 92
      · have T1 := Lib.hid (fun w => isEsc_at R w true (by rw [h92]; rfl))
        obtain ⟨o, ho⟩ : ∃ o, scanE s (p + K) = o := ⟨_, rfl⟩
        obtain ⟨msg, hm⟩ : ∃ msg, badEsc s (p + K) = msg := ⟨_, rfl⟩
        have SC := Lib.hid (fun w' (h : LY B lb s (p + K) start acc its w') (hT : TabsL B w') => esc_any B lb (p + K) start s acc its w' h hs hk.2 hT (by have := HA.out; omega) o ho msg hm)
        cases o with
        | some x =>
          have hx := scanE_gt s _ x ho
          have HC2 : Hid (keyL s x.2 (acc ++ [x.1]) = T) := Lib.hid (by rw [← keyL_esc hlt (by rw [hR, h92]) x (by rw [hK]; exact ho)]; exact hC)
          clear hR hK hok hTr hC ho hm h92
          go_wp2_with (go_at_call 114; (with_reducible refine HN.out.mono ?_); rintro e v1 ⟨rfl, hx, hb⟩; dsimp only)
          have HX1 := Lib.hid hx
          have HB1 := Lib.hid (HBL.out.trans hb)
          clear hx hb
          have HY1 : Hid (LY B lb s (p + K) start acc its v1) := Lib.hid ⟨_, HX1.out⟩
          go_wp2_with (go_at_call 132; (with_reducible refine (T1.out _).mono ?_); rintro e v2 ⟨rfl, rfl⟩; dsimp only)
          go_wp2_with (go_at_call 133; (with_reducible refine (SC.out _ HY1.out (HT.out.below HB1.out)).mono ?_); rintro e v3 ⟨rfl, hy, hb⟩; dsimp only)
          have HY3 := Lib.hid hy
          have HB3 := Lib.hid (HB1.out.trans hb)
          clear hy hb
          go_wp2
          go_roundg (s.size - x.2 + 1)
          case measure => omega
          case rel => exact ⟨x.2, acc ++ [x.1], rfl, hx.2, Lib.hid (by have := HA.out; simp; omega), Lib.hid (by simp), HY3, HB3, HC2⟩
        | none =>
          have hC2 := hC.symm.trans (keyL_bad hlt (by rw [hR, h92]) (by rw [hK]; exact ho))
          rw [hK, hm] at hC2
          subst hC2
          have hr := HRR.out
          dsimp only at hr
          subst hr
          unfold StPost
          clear hR hK hok hTr ho hm h92 hC
          go_wp2_with (go_at_call 114; (with_reducible refine HN.out.mono ?_); rintro e v4 ⟨rfl, hx, hb⟩; dsimp only)
          have HX4 := Lib.hid hx
          have HB4 := Lib.hid (HBL.out.trans hb)
          clear hx hb
          have HY4 : Hid (LY B lb s (p + K) start acc its v4) := Lib.hid ⟨_, HX4.out⟩
          go_wp2_with (go_at_call 132; (with_reducible refine (T1.out _).mono ?_); rintro e v5 ⟨rfl, rfl⟩; dsimp only)
          go_wp2_with (go_at_call 133; (with_reducible refine (SC.out _ HY4.out (HT.out.below HB4.out)).mono ?_); rintro e v6 ⟨N, q, rfl, hc, hy, hb⟩; dsimp only)
          have HY6 := Lib.hid hy
          have HB6 := Lib.hid (HB4.out.trans hb)
          clear hy hb
          have ER := Lib.hid (fun w' (h : LY B lb s q start acc its w') => errorY B lb q start s msg acc its w' h (by omega))
          have HC6 := Lib.hid (errStr_any N msg v6 hc)
          clear hc
          go_wp2_with (go_at_call 211; (with_reducible refine HC6.out.mono ?_); rintro e v7 ⟨rfl, rfl⟩; dsimp only)
          go_wp2_with (go_at_call 134; (with_reducible refine (ER.out _ HY6.out).mono ?_); rintro e v8 ⟨rfl, hy, hb⟩; dsimp only)
          have HY8 := Lib.hid hy
          have HB8 := Lib.hid (HB6.out.trans hb)
          clear hy hb
          go_wp2
          rw [Exit.noGoto_ret]
          go_ret
          exact ⟨⟨rfl, _, _, _, HY8.out⟩, HB8.out⟩
      · have T1 := Lib.hid (fun w => isEsc_at R w false (by rw [beq_eq_false_iff_ne]; exact h92))
        cases he : endK R with
        | true =>
          have hC2 := hC.symm.trans (keyL_end hlt (by rw [hR]; exact h92) (by rw [hR]; exact he))
          subst hC2
          have hr := HRR.out
          dsimp only at hr
          have T2 := Lib.hid (fun w => isEnd_at R w hok true he)
          have BK := Lib.hid (fun w' (h : LX B lb s (p + K) start K acc its w') => backupY B lb p K start s acc its w' h (by omega))
          have EM := Lib.hid (fun w' (h : LY B lb s p start acc its w') => emitL B lb p start 2 2 rfl s acc its w' h (by omega))
          clear hR hK hok hTr h92 he hC
          by_cases hae : acc = []
          · subst hae
            have hps := HN0.out rfl
            subst hps
            simp only [if_true, List.nil_append, Bool.false_eq_true, if_false] at hr
            subst hr
            unfold StPost
            go_wp2_with (go_at_call 114; (with_reducible refine HN.out.mono ?_); rintro e v9 ⟨rfl, hx, hb⟩; dsimp only)
            have HX9 := Lib.hid hx
            have HB9 := Lib.hid (HBL.out.trans hb)
            clear hx hb
            go_wp2_with (go_at_call 132; (with_reducible refine (T1.out _).mono ?_); rintro e v10 ⟨rfl, rfl⟩; dsimp only)
            go_wp2_with (go_at_call 135; (with_reducible refine (T2.out _).mono ?_); rintro e v11 ⟨rfl, hb⟩; dsimp only)
            have HX11 := Lib.hid (HX9.out.below hb)
            have HB11 : Hid (Below B w v11) := Lib.hid (HB9.out.trans (hb.mono (Nat.le_trans HX9.out.lo (Nat.le_of_lt HX9.out.lt))))
            clear hb
            go_wp2_with (go_at_call 122; (with_reducible refine (BK.out _ HX11.out).mono ?_); rintro e v12 ⟨rfl, hy, hb⟩; obtain ⟨gg, cc, hlen⟩ := hy.len; have HY12 := Lib.hid hy; have HB12 := Lib.hid (HB11.out.trans hb); clear hy hb; dsimp only)
            go_wp2_with (go_at_call 115; (with_reducible refine (TE.out _).mono ?_); rintro e v13 ⟨rfl, rfl⟩; dsimp only)
            go_wp2
            rw [Exit.noGoto_ret]
            go_ret
            exact ⟨⟨rfl, _, HY12.out.nil, .inr rfl⟩, HB12.out⟩
          · rw [if_neg hae] at hr
            simp only [if_false, Bool.false_eq_true, List.append_nil] at hr
            subst hr
            unfold StPost
            obtain ⟨m, hm⟩ : ∃ m, acc.length = m := ⟨_, rfl⟩
            have hm0 : (0 : Int) < (m : Int) := by have := List.length_pos_iff.2 hae; omega
            clear hae
            go_wp2_with (go_at_call 114; (with_reducible refine HN.out.mono ?_); rintro e v14 ⟨rfl, hx, hb⟩; dsimp only)
            have HX14 := Lib.hid hx
            have HB14 := Lib.hid (HBL.out.trans hb)
            clear hx hb
            go_wp2_with (go_at_call 132; (with_reducible refine (T1.out _).mono ?_); rintro e v15 ⟨rfl, rfl⟩; dsimp only)
            go_wp2_with (go_at_call 135; (with_reducible refine (T2.out _).mono ?_); rintro e v16 ⟨rfl, hb⟩; dsimp only)
            have HX16 := Lib.hid (HX14.out.below hb)
            have HB16 : Hid (Below B w v16) := Lib.hid (HB14.out.trans (hb.mono (Nat.le_trans HX14.out.lo (Nat.le_of_lt HX14.out.lt))))
            clear hb
            go_wp2_with (go_at_call 122; (with_reducible refine (BK.out _ HX16.out).mono ?_); rintro e v17 ⟨rfl, hy, hb⟩; obtain ⟨gg, cc, hlen⟩ := hy.len; have HY17 := Lib.hid hy; have HB17 := Lib.hid (HB16.out.trans hb); clear hy hb; dsimp only)
            go_wp2_with (go_at_call 116; (with_reducible refine (EM.out _ HY17.out).mono ?_); rintro e v18 ⟨rfl, hy, hb⟩; dsimp only)
            have HY18 := Lib.hid hy
            have HB18 := Lib.hid (HB17.out.trans hb)
            clear hy hb
            go_wp2_with (go_at_call 115; (with_reducible refine (TE.out _).mono ?_); rintro e v19 ⟨rfl, rfl⟩; dsimp only)
            go_wp2
            rw [Exit.noGoto_ret]
            go_ret
            exact ⟨⟨rfl, _, HY18.out, .inr rfl⟩, HB18.out⟩
        | false =>
          have HC2 := Lib.hid (by have := hC; rw [keyL_chr hlt (by rw [hR]; exact h92) (by rw [hR]; exact he), hR, hK] at this; exact this)
          have T2 := Lib.hid (fun w => isEnd_at R w hok false he)
          have AP := Lib.hid (fun w' (h : LY B lb s (p + K) start acc its w') => appendY B lb (p + K) start R s acc its w' h (by have := HA.out; omega))
          clear hR hK hok hTr h92 he hC
          go_wp2_with (go_at_call 114; (with_reducible refine HN.out.mono ?_); rintro e v20 ⟨rfl, hx, hb⟩; dsimp only)
          have HX20 := Lib.hid hx
          have HB20 := Lib.hid (HBL.out.trans hb)
          clear hx hb
          have HY20 : Hid (LY B lb s (p + K) start acc its v20) := Lib.hid ⟨_, HX20.out⟩
          go_wp2_with (go_at_call 132; (with_reducible refine (T1.out _).mono ?_); rintro e v21 ⟨rfl, rfl⟩; dsimp only)
          go_wp2_with (go_at_call 135; (with_reducible refine (T2.out _).mono ?_); rintro e v22 ⟨rfl, hb⟩; dsimp only)
          have HY22 := Lib.hid (HY20.out.below hb)
          have HB22 : Hid (Below B w v22) := Lib.hid (HB20.out.trans (hb.mono HY20.out.lt))
          clear hb
          go_wp2_with (go_at_call 115; (with_reducible refine (TE.out _).mono ?_); rintro e v23 ⟨rfl, rfl⟩; dsimp only)
          go_wp2_with (go_at_call 131; (with_reducible refine (AP.out _ HY22.out).mono ?_); rintro e v24 ⟨rfl, hy, hb⟩; dsimp only)
          have HY24 := Lib.hid hy
          have HB24 := Lib.hid (HB22.out.trans hb)
          clear hy hb
          go_wp2
          go_roundg (s.size - (p + K) + 1)
          case measure => omega
          case rel => exact ⟨p + K, acc ++ [R], rfl, hk.2, Lib.hid (by have := HA.out; simp; omega), Lib.hid (by simp), HY24, HB24, HC2⟩
    · have hC := HC.out
      have hC2 := hC.symm.trans (keyL_eof hlt)
      subst hC2
      have hr := HRR.out
      dsimp only at hr
      have HN := Lib.hid (nextY_end B lb p start s acc its wr HYL.out hs hlt hp)
      have TE := Lib.hid (fun w => isEOF_eof w)
      have T1 := Lib.hid (fun w => isEsc_eof w)
      have T2 := Lib.hid (fun w => isEnd_eof w)
      have EM := Lib.hid (fun w' (h : LY B lb s p start acc its w') => emitL B lb p start 2 2 rfl s acc its w' h (by omega))
      clear hTr hC
      by_cases hae : acc = []
      · subst hae
        have hps := HN0.out rfl
        subst hps
        simp only [if_true, List.nil_append] at hr
        subst hr
        unfold StPost
        have EM1 := Lib.hid (fun w' (h : LY B lb s p p [] its w') => emitL B lb p p 1 1 rfl s [] its w' h (by omega))
        go_wp2_with (go_at_call 114; (with_reducible refine HN.out.mono ?_); rintro e v25 ⟨rfl, hx, hb⟩; dsimp only)
        have HX25 := Lib.hid hx
        have HB25 := Lib.hid (HBL.out.trans hb)
        clear hx hb
        have HY25 : Hid (LY B lb s p p [] its v25) := Lib.hid ⟨_, HX25.out⟩
        obtain ⟨gg, cc, hlen⟩ := HY25.out.len
        go_wp2_with (go_at_call 132; (with_reducible refine (T1.out _).mono ?_); rintro e v26 ⟨rfl, rfl⟩; dsimp only)
        go_wp2_with (go_at_call 135; (with_reducible refine (T2.out _).mono ?_); rintro e v27 ⟨rfl, rfl⟩; dsimp only)
        go_wp2_with (go_at_call 115; (with_reducible refine (TE.out _).mono ?_); rintro e v28 ⟨rfl, rfl⟩; dsimp only)
        go_wp2_with (go_at_call 115; (with_reducible refine (TE.out _).mono ?_); rintro e v29 ⟨rfl, rfl⟩; dsimp only)
        go_wp2_with (go_at_call 116; (with_reducible refine (EM1.out _ HY25.out).mono ?_); rintro e v30 ⟨rfl, hy, hb⟩; dsimp only)
        have HY30 := Lib.hid hy
        have HB30 := Lib.hid (HB25.out.trans hb)
        clear hy hb
        go_wp2
        rw [Exit.noGoto_ret]
        go_ret
        exact ⟨⟨rfl, _, _, _, HY30.out⟩, HB30.out⟩
      · rw [if_neg hae] at hr
        simp only [if_true] at hr
        subst hr
        unfold StPost
        obtain ⟨m, hm⟩ : ∃ m, acc.length = m := ⟨_, rfl⟩
        have hm0 : (0 : Int) < (m : Int) := by have := List.length_pos_iff.2 hae; omega
        clear hae
        have EM1 := Lib.hid (fun w' (h : LY B lb s p p [] (its ++ [⟨2, start, textOf acc⟩]) w') => emitL B lb p p 1 1 rfl s [] (its ++ [⟨2, start, textOf acc⟩]) w' h (by simp; omega))
        go_wp2_with (go_at_call 114; (with_reducible refine HN.out.mono ?_); rintro e v31 ⟨rfl, hx, hb⟩; dsimp only)
        have HX31 := Lib.hid hx
        have HB31 := Lib.hid (HBL.out.trans hb)
        clear hx hb
        have HY31 : Hid (LY B lb s p start acc its v31) := Lib.hid ⟨_, HX31.out⟩
        obtain ⟨gg, cc, hlen⟩ := HY31.out.len
        go_wp2_with (go_at_call 132; (with_reducible refine (T1.out _).mono ?_); rintro e v32 ⟨rfl, rfl⟩; dsimp only)
        go_wp2_with (go_at_call 135; (with_reducible refine (T2.out _).mono ?_); rintro e v33 ⟨rfl, rfl⟩; dsimp only)
        go_wp2_with (go_at_call 115; (with_reducible refine (TE.out _).mono ?_); rintro e v34 ⟨rfl, rfl⟩; dsimp only)
        go_wp2_with (go_at_call 116; (with_reducible refine (EM.out _ HY31.out).mono ?_); rintro e v35 ⟨rfl, hy, hb⟩; dsimp only)
        have HY35 := Lib.hid hy
        have HB35 := Lib.hid (HB31.out.trans hb)
        clear hy hb
        go_wp2_with (go_at_call 115; (with_reducible refine (TE.out _).mono ?_); rintro e v36 ⟨rfl, rfl⟩; dsimp only)
        go_wp2_with (go_at_call 116; (with_reducible refine (EM1.out _ HY35.out).mono ?_); rintro e v37 ⟨rfl, hy, hb⟩; dsimp only)
        have HY37 := Lib.hid hy
        have HB37 := Lib.hid (HB35.out.trans hb)
        clear hy hb
        go_wp2
        rw [Exit.noGoto_ret]
        go_ret
        exact ⟨⟨rfl, _, _, _, by have := HY37.out; rw [List.append_assoc] at this; exact this⟩, HB37.out⟩
end Go.Proofs.YtackciefmdiphaaGreatDoor
