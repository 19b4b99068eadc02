/- The lexer's state lexValue. -/
import Derived.Test.YtackciefmdiphaaGreatDoorLexSt2
set_option linter.unusedVariables false
namespace Go.Proofs.YtackciefmdiphaaGreatDoor
open Go.RowKit Plain

set_option maxHeartbeats 8000000 in
set_option maxRecDepth 100000 in
theorem val_any (B lb pos start : Nat) (s : ByteArray) (its : List LI) (w : World) (h : LY B lb s pos start [] its w) (hs : s.size ≤ 2147483647) (hp2 : pos ≤ s.size) (hi : its.length ≤ 900000) (hT : TabsL B w) (hst : start = pos) (r : List LI × Option (NX × Nat)) (hr : lexS s .val pos = r) :
    Calls Tryz.prog 156 #[.pointer (some ⟨lb, 0, none⟩)] w (StPost B lb s its r w) := by
  subst hst
  have HB0 : Hid (Below B w w) := Lib.hid (Below.refl B w)
  have HT := Lib.hid hT
  have HY0 := Lib.hid h
  unfold lexS at hr
  dsimp only at hr
  obtain ⟨T, hTT⟩ : ∃ T, valL s start [] = T := ⟨_, rfl⟩
  rw [hTT] at hr
  have HTT := Lib.hid hTT
  have HRR := Lib.hid hr
  clear h hT hr hTT
  go_enter Tryz.func156, Tryz.ntmps156
  go_wp2
  go_loopg [3] (s.size - start + 1) (fun g rv wr => ∃ (p : Nat) (acc : List Nat), g = s.size - p + 1 ∧ p ≤ s.size ∧ Hid (acc.length ≤ p) ∧ Hid (LY B lb s p start acc its wr) ∧ Hid (Below B w wr) ∧ Hid (valL s p acc = T))
  case atStart => exact ⟨start, [], rfl, hp2, Nat.zero_le _, HY0, HB0, HTT⟩
  case round =>
    obtain ⟨p, acc, rfl, hp, HA, HYL, HBL, HC⟩ := hrel
    have hTr := HT.out.below HBL.out
    by_cases hlt : p < s.size
    · obtain ⟨R, hR⟩ : ∃ R, rAt s p = R := ⟨_, rfl⟩
      obtain ⟨K, hK⟩ : ∃ K, kAt s p = K := ⟨_, rfl⟩
      have hok := rAt_ok s p
      have hk := kAt_pos s p hlt
      have hC := HC.out
      rw [hR] at hok
      rw [hK] at hk
      have HN := Lib.hid (nextY_at B lb p start s acc its wr HYL.out hs hlt hTr R K hR hK)
      have TE := Lib.hid (fun w => isEOF_at R w)
      by_cases h92 : R = 92
      · have T1 := Lib.hid (fun w => isEsc_at R w true (by rw [h92]; rfl))
        obtain ⟨o, ho⟩ : ∃ o, scanE s (p + K) = o := ⟨_, rfl⟩
        obtain ⟨msg, hm⟩ : ∃ msg, badEsc s (p + K) = msg := ⟨_, rfl⟩
        have SC := Lib.hid (fun w' (h : LY B lb s (p + K) start acc its w') (hT : TabsL B w') => esc_any B lb (p + K) start s acc its w' h hs hk.2 hT (by have := HA.out; omega) o ho msg hm)
        by_cases hq : p + K < s.size
        · obtain ⟨R2, hR2⟩ : ∃ R2, rAt s (p + K) = R2 := ⟨_, rfl⟩
          have PK := Lib.hid (fun w' (h : LY B lb s (p + K) start acc its w') (hT : TabsL B w') => peek_at B lb (p + K) start s acc its w' h hs hq hT R2 hR2)
          cases he2 : eolR R2 with
          | true =>
            obtain ⟨K2, hK2⟩ : ∃ K2, kAt s (p + K) = K2 := ⟨_, rfl⟩
            have hk2 := kAt_pos s _ hq
            rw [hK2] at hk2
            obtain ⟨p3, hp3⟩ : ∃ p3, skipW s (p + K + K2) = p3 := ⟨_, rfl⟩
            have hp3a := skipW_ge s (p + K + K2)
            have hp3b := skipW_le s (p + K + K2) hk2.2
            rw [hp3] at hp3a hp3b
            have HC2 : Hid (valL s p3 acc = T) := Lib.hid (by
              have := hC
              rw [valL_on hlt (by rw [hR, h92]) (by rw [hK]; exact hq) (by rw [hK, hR2]; exact he2), hK, hK2, hp3] at this
              exact this)
            have T2 := Lib.hid (fun w => isEOL_at R2 w true he2)
            have N2 := Lib.hid (fun w' (h : LY B lb s (p + K) start acc its w') (hT : TabsL B w') => nextY_at B lb (p + K) start s acc its w' h hs hq hT R2 K2 hR2 hK2)
            have RW := Lib.hid (fun w' (h : LY B lb s (p + K + K2) start acc its w') (hT : TabsL B w') => run_ws B lb (p + K + K2) start p3 s acc its w' h hs hk2.2 hT hp3)
            clear hR hK hok hTr hC ho hm h92 hR2 hK2 he2 hp3
            go_wp2_with (go_at_call 114; (with_reducible refine HN.out.mono ?_); rintro e v1 ⟨rfl, hx, hb⟩; dsimp only)
            have HX1 := Lib.hid hx
            have HB1 := Lib.hid (HBL.out.trans hb)
            clear hx hb
            have HY1 : Hid (LY B lb s (p + K) start acc its v1) := Lib.hid ⟨_, HX1.out⟩
            go_wp2_with (go_at_call 132; (with_reducible refine (T1.out _).mono ?_); rintro e v2 ⟨rfl, rfl⟩; dsimp only)
            go_wp2_with (go_at_call 164; (with_reducible refine (PK.out _ HY1.out (HT.out.below HB1.out)).mono ?_); rintro e v3 ⟨rfl, hy, hb⟩; dsimp only)
            have HY3 := Lib.hid hy
            have HB3 := Lib.hid (HB1.out.trans hb)
            clear hy hb
            go_wp2_with (go_at_call 117; (with_reducible refine (T2.out _).mono ?_); rintro e v4 ⟨rfl, rfl⟩; dsimp only)
            go_wp2_with (go_at_call 114; (with_reducible refine (N2.out _ HY3.out (HT.out.below HB3.out)).mono ?_); rintro e v5 ⟨rfl, hx, hb⟩; dsimp only)
            have HX5 := Lib.hid hx
            have HB5 := Lib.hid (HB3.out.trans hb)
            clear hx hb
            have HY5 : Hid (LY B lb s (p + K + K2) start acc its v5) := Lib.hid ⟨_, HX5.out⟩
            go_wp2_with (go_at_call 130; (with_reducible refine (RW.out _ HY5.out (HT.out.below HB5.out)).mono ?_); rintro e v6 ⟨rfl, hy, hb⟩; dsimp only)
            have HY6 := Lib.hid hy
            have HB6 := Lib.hid (HB5.out.trans hb)
            clear hy hb
            go_wp2
            go_roundg (s.size - p3 + 1)
            case measure => omega
            case rel => exact ⟨p3, acc, rfl, hp3b, Lib.hid (by have := HA.out; omega), HY6, HB6, HC2⟩
          | false =>
            have T2 := Lib.hid (fun w => isEOL_at R2 w false he2)
            have h00 : ¬ (p + kAt s p < s.size ∧ eolR (rAt s (p + kAt s p)) = true) := by rw [hK, hR2, he2]; simp
            cases o with
            | some x =>
              have hx := scanE_gt s _ x ho
              have HC2 : Hid (valL s x.2 (acc ++ [x.1]) = T) := Lib.hid (by rw [← valL_esc hlt (by rw [hR, h92]) h00 x (by rw [hK]; exact ho)]; exact hC)
              clear hR hK hok hTr hC ho hm h92 h00
              go_wp2_with (go_at_call 114; (with_reducible refine HN.out.mono ?_); rintro e v7 ⟨rfl, hx, hb⟩; dsimp only)
              have HX7 := Lib.hid hx
              have HB7 := Lib.hid (HBL.out.trans hb)
              clear hx hb
              have HY7 : Hid (LY B lb s (p + K) start acc its v7) := Lib.hid ⟨_, HX7.out⟩
              go_wp2_with (go_at_call 132; (with_reducible refine (T1.out _).mono ?_); rintro e v8 ⟨rfl, rfl⟩; dsimp only)
              go_wp2_with (go_at_call 164; (with_reducible refine (PK.out _ HY7.out (HT.out.below HB7.out)).mono ?_); rintro e v9 ⟨rfl, hy, hb⟩; dsimp only)
              have HY9 := Lib.hid hy
              have HB9 := Lib.hid (HB7.out.trans hb)
              clear hy hb
              go_wp2_with (go_at_call 117; (with_reducible refine (T2.out _).mono ?_); rintro e v10 ⟨rfl, rfl⟩; dsimp only)
              go_wp2_with (go_at_call 133; (with_reducible refine (SC.out _ HY9.out (HT.out.below HB9.out)).mono ?_); rintro e v11 ⟨rfl, hy, hb⟩; dsimp only)
              have HY11 := Lib.hid hy
              have HB11 := Lib.hid (HB9.out.trans hb)
              clear hy hb
              go_wp2
              go_roundg (s.size - x.2 + 1)
              case measure => omega
              case rel => exact ⟨x.2, acc ++ [x.1], rfl, hx.2, Lib.hid (by have := HA.out; simp; omega), HY11, HB11, HC2⟩
            | none =>
              have hC2 := hC.symm.trans (valL_bad hlt (by rw [hR, h92]) h00 (by rw [hK]; exact ho))
              rw [hK, hm] at hC2
              subst hC2
              have hr := HRR.out
              dsimp only at hr
              subst hr
              unfold StPost
              clear hR hK hok hTr ho hm h92 hC h00
              go_wp2_with (go_at_call 114; (with_reducible refine HN.out.mono ?_); rintro e v12 ⟨rfl, hx, hb⟩; dsimp only)
              have HX12 := Lib.hid hx
              have HB12 := Lib.hid (HBL.out.trans hb)
              clear hx hb
              have HY12 : Hid (LY B lb s (p + K) start acc its v12) := Lib.hid ⟨_, HX12.out⟩
              go_wp2_with (go_at_call 132; (with_reducible refine (T1.out _).mono ?_); rintro e v13 ⟨rfl, rfl⟩; dsimp only)
              go_wp2_with (go_at_call 164; (with_reducible refine (PK.out _ HY12.out (HT.out.below HB12.out)).mono ?_); rintro e v14 ⟨rfl, hy, hb⟩; dsimp only)
              have HY14 := Lib.hid hy
              have HB14 := Lib.hid (HB12.out.trans hb)
              clear hy hb
              go_wp2_with (go_at_call 117; (with_reducible refine (T2.out _).mono ?_); rintro e v15 ⟨rfl, rfl⟩; dsimp only)
              go_wp2_with (go_at_call 133; (with_reducible refine (SC.out _ HY14.out (HT.out.below HB14.out)).mono ?_); rintro e v16 ⟨N, q, rfl, hc, hy, hb⟩; dsimp only)
              have HY16 := Lib.hid hy
              have HB16 := Lib.hid (HB14.out.trans hb)
              clear hy hb
              have ER := Lib.hid (fun w' (h : LY B lb s q start acc its w') => errorY B lb q start s msg acc its w' h (by omega))
              have HC16 := Lib.hid (errStr_any N msg v16 hc)
              clear hc
              go_wp2_with (go_at_call 211; (with_reducible refine HC16.out.mono ?_); rintro e v17 ⟨rfl, rfl⟩; dsimp only)
              go_wp2_with (go_at_call 134; (with_reducible refine (ER.out _ HY16.out).mono ?_); rintro e v18 ⟨rfl, hy, hb⟩; dsimp only)
              have HY18 := Lib.hid hy
              have HB18 := Lib.hid (HB16.out.trans hb)
              clear hy hb
              go_wp2
              go_ret
              exact ⟨⟨rfl, _, _, _, HY18.out⟩, HB18.out⟩
        · have PK := Lib.hid (fun w' (h : LY B lb s (p + K) start acc its w') (hT : TabsL B w') => peek_end B lb (p + K) start s acc its w' h hs hq hk.2)
          have T2 := Lib.hid (fun w => isEOL_eof w)
          have h00 : ¬ (p + kAt s p < s.size ∧ eolR (rAt s (p + kAt s p)) = true) := by rw [hK]; exact fun h => hq h.1
          cases o with
          | some x =>
            have hx := scanE_gt s _ x ho
            have HC2 : Hid (valL s x.2 (acc ++ [x.1]) = T) := Lib.hid (by rw [← valL_esc hlt (by rw [hR, h92]) h00 x (by rw [hK]; exact ho)]; exact hC)
            clear hR hK hok hTr hC ho hm h92 h00
            go_wp2_with (go_at_call 114; (with_reducible refine HN.out.mono ?_); rintro e v19 ⟨rfl, hx, hb⟩; dsimp only)
            have HX19 := Lib.hid hx
            have HB19 := Lib.hid (HBL.out.trans hb)
            clear hx hb
            have HY19 : Hid (LY B lb s (p + K) start acc its v19) := Lib.hid ⟨_, HX19.out⟩
            go_wp2_with (go_at_call 132; (with_reducible refine (T1.out _).mono ?_); rintro e v20 ⟨rfl, rfl⟩; dsimp only)
            go_wp2_with (go_at_call 164; (with_reducible refine (PK.out _ HY19.out (HT.out.below HB19.out)).mono ?_); rintro e v21 ⟨rfl, hy, hb⟩; dsimp only)
            have HY21 := Lib.hid hy
            have HB21 := Lib.hid (HB19.out.trans hb)
            clear hy hb
            go_wp2_with (go_at_call 117; (with_reducible refine (T2.out _).mono ?_); rintro e v22 ⟨rfl, rfl⟩; dsimp only)
            go_wp2_with (go_at_call 133; (with_reducible refine (SC.out _ HY21.out (HT.out.below HB21.out)).mono ?_); rintro e v23 ⟨rfl, hy, hb⟩; dsimp only)
            have HY23 := Lib.hid hy
            have HB23 := Lib.hid (HB21.out.trans hb)
            clear hy hb
            go_wp2
            go_roundg (s.size - x.2 + 1)
            case measure => omega
            case rel => exact ⟨x.2, acc ++ [x.1], rfl, hx.2, Lib.hid (by have := HA.out; simp; omega), HY23, HB23, HC2⟩
          | none =>
            have hC2 := hC.symm.trans (valL_bad hlt (by rw [hR, h92]) h00 (by rw [hK]; exact ho))
            rw [hK, hm] at hC2
            subst hC2
            have hr := HRR.out
            dsimp only at hr
            subst hr
            unfold StPost
            clear hR hK hok hTr ho hm h92 hC h00
            go_wp2_with (go_at_call 114; (with_reducible refine HN.out.mono ?_); rintro e v24 ⟨rfl, hx, hb⟩; dsimp only)
            have HX24 := Lib.hid hx
            have HB24 := Lib.hid (HBL.out.trans hb)
            clear hx hb
            have HY24 : Hid (LY B lb s (p + K) start acc its v24) := Lib.hid ⟨_, HX24.out⟩
            go_wp2_with (go_at_call 132; (with_reducible refine (T1.out _).mono ?_); rintro e v25 ⟨rfl, rfl⟩; dsimp only)
            go_wp2_with (go_at_call 164; (with_reducible refine (PK.out _ HY24.out (HT.out.below HB24.out)).mono ?_); rintro e v26 ⟨rfl, hy, hb⟩; dsimp only)
            have HY26 := Lib.hid hy
            have HB26 := Lib.hid (HB24.out.trans hb)
            clear hy hb
            go_wp2_with (go_at_call 117; (with_reducible refine (T2.out _).mono ?_); rintro e v27 ⟨rfl, rfl⟩; dsimp only)
            go_wp2_with (go_at_call 133; (with_reducible refine (SC.out _ HY26.out (HT.out.below HB26.out)).mono ?_); rintro e v28 ⟨N, q, rfl, hc, hy, hb⟩; dsimp only)
            have HY28 := Lib.hid hy
            have HB28 := Lib.hid (HB26.out.trans hb)
            clear hy hb
            have ER := Lib.hid (fun w' (h : LY B lb s q start acc its w') => errorY B lb q start s msg acc its w' h (by omega))
            have HC28 := Lib.hid (errStr_any N msg v28 hc)
            clear hc
            go_wp2_with (go_at_call 211; (with_reducible refine HC28.out.mono ?_); rintro e v29 ⟨rfl, rfl⟩; dsimp only)
            go_wp2_with (go_at_call 134; (with_reducible refine (ER.out _ HY28.out).mono ?_); rintro e v30 ⟨rfl, hy, hb⟩; dsimp only)
            have HY30 := Lib.hid hy
            have HB30 := Lib.hid (HB28.out.trans hb)
            clear hy hb
            go_wp2
            go_ret
            exact ⟨⟨rfl, _, _, _, HY30.out⟩, HB30.out⟩
      · have T1 := Lib.hid (fun w => isEsc_at R w false (by rw [beq_eq_false_iff_ne]; exact h92))
        cases he : eolR R with
        | true =>
          have hC2 := hC.symm.trans (valL_end hlt (by rw [hR]; exact h92) (by rw [hR]; exact he))
          rw [hK] at hC2
          subst hC2
          have hr := HRR.out
          dsimp only at hr
          simp only [Bool.false_eq_true, if_false, List.append_nil] at hr
          subst hr
          unfold StPost
          have T2 := Lib.hid (fun w => isEOL_at R w true he)
          have EM := Lib.hid (fun w' (h : LY B lb s (p + K) start acc its w') => emitL B lb (p + K) start 3 3 rfl s acc its w' h (by omega))
          have IG := Lib.hid (fun w' (h : LY B lb s (p + K) (p + K) [] (its ++ [⟨3, start, textOf acc⟩]) w') => ignoreY B lb (p + K) (p + K) s [] (its ++ [⟨3, start, textOf acc⟩]) w' h)
          clear hR hK hok hTr h92 he hC
          go_wp2_with (go_at_call 114; (with_reducible refine HN.out.mono ?_); rintro e v31 ⟨rfl, hx, hb⟩; dsimp only)
          have HX31 := Lib.hid hx
          have HB31 := Lib.hid (HBL.out.trans hb)
          clear hx hb
          have HY31 : Hid (LY B lb s (p + K) start acc its v31) := Lib.hid ⟨_, HX31.out⟩
          go_wp2_with (go_at_call 132; (with_reducible refine (T1.out _).mono ?_); rintro e v32 ⟨rfl, rfl⟩; dsimp only)
          go_wp2_with (go_at_call 117; (with_reducible refine (T2.out _).mono ?_); rintro e v33 ⟨rfl, rfl⟩; dsimp only)
          go_wp2_with (go_at_call 116; (with_reducible refine (EM.out _ HY31.out).mono ?_); rintro e v34 ⟨rfl, hy, hb⟩; dsimp only)
          have HY34 := Lib.hid hy
          have HB34 := Lib.hid (HB31.out.trans hb)
          clear hy hb
          go_wp2_with (go_at_call 118; (with_reducible refine (IG.out _ HY34.out).mono ?_); rintro e v35 ⟨rfl, hy, hb⟩; dsimp only)
          have HY35 := Lib.hid hy
          have HB35 := Lib.hid (HB34.out.trans hb)
          clear hy hb
          go_wp2
          go_ret
          exact ⟨⟨rfl, _, HY35.out, .inr rfl⟩, HB35.out⟩
        | false =>
          have HC2 := Lib.hid (by have := hC; rw [valL_chr hlt (by rw [hR]; exact h92) (by rw [hR]; exact he), hR, hK] at this; exact this)
          have T2 := Lib.hid (fun w => isEOL_at R w false he)
          have AP := Lib.hid (fun w' (h : LY B lb s (p + K) start acc its w') => appendY B lb (p + K) start R s acc its w' h (by have := HA.out; omega))
          clear hR hK hok hTr h92 he hC
          go_wp2_with (go_at_call 114; (with_reducible refine HN.out.mono ?_); rintro e v36 ⟨rfl, hx, hb⟩; dsimp only)
          have HX36 := Lib.hid hx
          have HB36 := Lib.hid (HBL.out.trans hb)
          clear hx hb
          have HY36 : Hid (LY B lb s (p + K) start acc its v36) := Lib.hid ⟨_, HX36.out⟩
          go_wp2_with (go_at_call 132; (with_reducible refine (T1.out _).mono ?_); rintro e v37 ⟨rfl, rfl⟩; dsimp only)
          go_wp2_with (go_at_call 117; (with_reducible refine (T2.out _).mono ?_); rintro e v38 ⟨rfl, rfl⟩; dsimp only)
          go_wp2_with (go_at_call 115; (with_reducible refine (TE.out _).mono ?_); rintro e v39 ⟨rfl, rfl⟩; dsimp only)
          go_wp2_with (go_at_call 131; (with_reducible refine (AP.out _ HY36.out).mono ?_); rintro e v40 ⟨rfl, hy, hb⟩; dsimp only)
          have HY40 := Lib.hid hy
          have HB40 := Lib.hid (HB36.out.trans hb)
          clear hy hb
          go_wp2
          go_roundg (s.size - (p + K) + 1)
          case measure => omega
          case rel => exact ⟨p + K, acc ++ [R], rfl, hk.2, Lib.hid (by have := HA.out; simp; omega), HY40, HB40, HC2⟩
    · have hC := HC.out
      have hC2 := hC.symm.trans (valL_eof hlt)
      subst hC2
      have hr := HRR.out
      dsimp only at hr
      simp only [if_true] at hr
      subst hr
      unfold StPost
      have HN := Lib.hid (nextY_end B lb p start s acc its wr HYL.out hs hlt hp)
      have TE := Lib.hid (fun w => isEOF_eof w)
      have T1 := Lib.hid (fun w => isEsc_eof w)
      have T2 := Lib.hid (fun w => isEOL_eof w)
      have EM := Lib.hid (fun w' (h : LY B lb s p start acc its w') => emitL B lb p start 3 3 rfl s acc its w' h (by omega))
      have EM1 := Lib.hid (fun w' (h : LY B lb s p p [] (its ++ [⟨3, start, textOf acc⟩]) w') => emitL B lb p p 1 1 rfl s [] (its ++ [⟨3, start, textOf acc⟩]) w' h (by simp; omega))
      clear hTr hC
      go_wp2_with (go_at_call 114; (with_reducible refine HN.out.mono ?_); rintro e v41 ⟨rfl, hx, hb⟩; dsimp only)
      have HX41 := Lib.hid hx
      have HB41 := Lib.hid (HBL.out.trans hb)
      clear hx hb
      have HY41 : Hid (LY B lb s p start acc its v41) := Lib.hid ⟨_, HX41.out⟩
      go_wp2_with (go_at_call 132; (with_reducible refine (T1.out _).mono ?_); rintro e v42 ⟨rfl, rfl⟩; dsimp only)
      go_wp2_with (go_at_call 117; (with_reducible refine (T2.out _).mono ?_); rintro e v43 ⟨rfl, rfl⟩; dsimp only)
      go_wp2_with (go_at_call 115; (with_reducible refine (TE.out _).mono ?_); rintro e v44 ⟨rfl, rfl⟩; dsimp only)
      go_wp2_with (go_at_call 116; (with_reducible refine (EM.out _ HY41.out).mono ?_); rintro e v45 ⟨rfl, hy, hb⟩; dsimp only)
      have HY45 := Lib.hid hy
      have HB45 := Lib.hid (HB41.out.trans hb)
      clear hy hb
      go_wp2_with (go_at_call 116; (with_reducible refine (EM1.out _ HY45.out).mono ?_); rintro e v46 ⟨rfl, hy, hb⟩; dsimp only)
      have HY46 := Lib.hid hy
      have HB46 := Lib.hid (HB45.out.trans hb)
      clear hy hb
      go_wp2
      go_ret
      exact ⟨⟨rfl, _, _, _, by have := HY46.out; rw [List.append_assoc] at this; exact this⟩, HB46.out⟩
end Go.Proofs.YtackciefmdiphaaGreatDoor
