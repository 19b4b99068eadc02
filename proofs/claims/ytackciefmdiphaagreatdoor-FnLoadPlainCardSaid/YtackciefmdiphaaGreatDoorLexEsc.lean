/- The lexer's scanEscapeSequence. -/
import Derived.Test.YtackciefmdiphaaGreatDoorLexLit
set_option linter.unusedVariables false
namespace Go.Proofs.YtackciefmdiphaaGreatDoor
open Go.RowKit Plain

set_option maxHeartbeats 8000000 in
set_option maxRecDepth 100000 in
theorem esc_any (B lb pos start : Nat) (s : ByteArray) (rs : List Nat) (its : List LI) (w : World) (h : LY B lb s pos start rs its w) (hs : s.size ≤ 2147483647) (hp2 : pos ≤ s.size) (hT : TabsL B w) (hn : rs.length ≤ 2147483647) (o : Option (Nat × Nat)) (ho : scanE s pos = o) (msg : ByteArray) (hm : badEsc s pos = msg) :
    Calls Tryz.prog 133 #[.pointer (some ⟨lb, 0, none⟩)] w (ScanPost B lb s start rs its o msg w) := by
  have HB0 : Hid (Below B w w) := Lib.hid (Below.refl B w)
  unfold scanE at ho
  unfold badEsc at hm
  by_cases hlt : pos < s.size
  · rw [if_pos hlt] at ho hm
    obtain ⟨R, hR⟩ : ∃ R, rAt s pos = R := ⟨_, rfl⟩
    obtain ⟨K, hK⟩ : ∃ K, kAt s pos = K := ⟨_, rfl⟩
    have hok := rAt_ok s pos
    have hk := kAt_pos s pos hlt
    rw [hR] at hok
    rw [hK] at hk
    have HN := Lib.hid (nextY_at B lb pos start s rs its w h hs hlt hT R K hR hK)
    rw [hR, hK] at ho
    subst hm
    cases hc : escC R with
    | true =>
      rw [hc, if_pos rfl] at ho
      subst ho
      unfold ScanPost
      have T1 := Lib.hid (fun w => isEscC_at R w hok true hc)
      have T2 := Lib.hid (fun w => decEsc_at R w)
      have AP := Lib.hid (fun w' (h : LY B lb s (pos + K) start rs its w') => appendY B lb (pos + K) start (decEsc R) s rs its w' h hn)
      clear hR hK hok hc h hT
      go_enter Tryz.func133, Tryz.ntmps133
      go_wp2_with (go_at_call 114; (with_reducible refine HN.out.mono ?_); rintro e v1 ⟨rfl, hx, hb⟩; dsimp only)
      have HX1 := Lib.hid hx
      have HB1 := Lib.hid (HB0.out.trans hb)
      clear hx hb
      have HY1 : Hid (LY B lb s (pos + K) start rs its v1) := Lib.hid ⟨_, HX1.out⟩
      go_wp2_with (go_at_call 151; (with_reducible refine (T1.out _).mono ?_); rintro e v2 ⟨rfl, hb⟩; dsimp only)
      have HY2 := Lib.hid (HY1.out.below hb)
      have HB2 : Hid (Below B w v2) := Lib.hid (HB1.out.trans (hb.mono HY1.out.lt))
      clear hb
      go_wp2_with (go_at_call 152; (with_reducible refine (T2.out _).mono ?_); rintro e v3 ⟨rfl, rfl⟩; dsimp only)
      go_wp2_with (go_at_call 131; (with_reducible refine (AP.out _ HY2.out).mono ?_); rintro e v4 ⟨rfl, hy, hb⟩; dsimp only)
      have HY4 := Lib.hid hy
      have HB4 := Lib.hid (HB2.out.trans hb)
      clear hy hb
      go_wp2
      go_ret
      exact ⟨rfl, HY4.out, HB4.out⟩
    | false =>
      rw [hc, if_neg (by decide)] at ho
      have T1 := Lib.hid (fun w => isEscC_at R w hok false hc)
      by_cases hu : R = 117
      · rw [if_pos hu] at ho
        have T2 := Lib.hid (fun w => atLit_at R w true (by rw [hu]; rfl))
        have LT := Lib.hid (fun w' (h : LY B lb s (pos + K) start rs its w') (hT : TabsL B w') => lit_any B lb (pos + K) start s rs its w' h hs hk.2 hT hn o ho)
        have HT := Lib.hid hT
        clear hR hK hok hc h hT ho hu
        go_enter Tryz.func133, Tryz.ntmps133
        go_wp2_with (go_at_call 114; (with_reducible refine HN.out.mono ?_); rintro e v5 ⟨rfl, hx, hb⟩; dsimp only)
        have HX5 := Lib.hid hx
        have HB5 := Lib.hid (HB0.out.trans hb)
        clear hx hb
        have HY5 : Hid (LY B lb s (pos + K) start rs its v5) := Lib.hid ⟨_, HX5.out⟩
        go_wp2_with (go_at_call 151; (with_reducible refine (T1.out _).mono ?_); rintro e v6 ⟨rfl, hb⟩; dsimp only)
        have HY6 := Lib.hid (HY5.out.below hb)
        have HB6 : Hid (Below B w v6) := Lib.hid (HB5.out.trans (hb.mono HY5.out.lt))
        clear hb
        go_wp2_with (go_at_call 153; (with_reducible refine (T2.out _).mono ?_); rintro e v7 ⟨rfl, rfl⟩; dsimp only)
        cases o with
        | some x =>
          go_wp2_with (go_at_call 154; (with_reducible refine (LT.out _ HY6.out (HT.out.below HB6.out)).mono ?_); rintro e v8 ⟨rfl, hy, hb⟩; dsimp only)
          have HYz := Lib.hid hy
          have HBz := Lib.hid (HB6.out.trans hb)
          clear hy hb
          go_wp2
          go_ret
          exact ⟨rfl, HYz.out, HBz.out⟩
        | none =>
          go_wp2_with (go_at_call 154; (with_reducible refine (LT.out _ HY6.out (HT.out.below HB6.out)).mono ?_); rintro e v8 ⟨N, q, rfl, hc, hy, hb⟩; dsimp only)
          have HCz := Lib.hid hc
          have HYz := Lib.hid hy
          have HBz := Lib.hid (HB6.out.trans hb)
          clear hy hb hc
          go_wp2
          go_ret
          exact ⟨N, q, rfl, HCz.out, HYz.out, HBz.out⟩
      · rw [if_neg hu] at ho
        subst ho
        unfold ScanPost
        have T2 := Lib.hid (fun w => atLit_at R w false (by rw [beq_eq_false_iff_ne]; exact hu))
        have T3 := Lib.hid (fun w => isEOF_at R w)
        have AP := Lib.hid (fun w' (h : LY B lb s (pos + K) start rs its w') => appendY B lb (pos + K) start R s rs its w' h hn)
        clear hR hK hok hc h hT hu
        go_enter Tryz.func133, Tryz.ntmps133
        go_wp2_with (go_at_call 114; (with_reducible refine HN.out.mono ?_); rintro e v9 ⟨rfl, hx, hb⟩; dsimp only)
        have HX9 := Lib.hid hx
        have HB9 := Lib.hid (HB0.out.trans hb)
        clear hx hb
        have HY9 : Hid (LY B lb s (pos + K) start rs its v9) := Lib.hid ⟨_, HX9.out⟩
        go_wp2_with (go_at_call 151; (with_reducible refine (T1.out _).mono ?_); rintro e v10 ⟨rfl, hb⟩; dsimp only)
        have HY10 := Lib.hid (HY9.out.below hb)
        have HB10 : Hid (Below B w v10) := Lib.hid (HB9.out.trans (hb.mono HY9.out.lt))
        clear hb
        go_wp2_with (go_at_call 153; (with_reducible refine (T2.out _).mono ?_); rintro e v11 ⟨rfl, rfl⟩; dsimp only)
        go_wp2_with (go_at_call 115; (with_reducible refine (T3.out _).mono ?_); rintro e v12 ⟨rfl, rfl⟩; dsimp only)
        go_wp2_with (go_at_call 131; (with_reducible refine (AP.out _ HY10.out).mono ?_); rintro e v13 ⟨rfl, hy, hb⟩; dsimp only)
        have HY13 := Lib.hid hy
        have HB13 := Lib.hid (HB10.out.trans hb)
        clear hy hb
        go_wp2
        go_ret
        exact ⟨rfl, HY13.out, HB13.out⟩
  · rw [if_neg hlt] at ho hm
    subst ho
    subst hm
    unfold ScanPost
    have HN := Lib.hid (nextY_end B lb pos start s rs its w h hs hlt hp2)
    have T1 := Lib.hid (fun w => isEscC_eof w)
    have T2 := Lib.hid (fun w => atLit_eof w)
    have T3 := Lib.hid (fun w => isEOF_eof w)
    have HE := Lib.hid (fun w => newErr_any ⟨#[112, 114, 101, 109, 97, 116, 117, 114, 101, 32, 69, 79, 70]⟩ w)
    clear h hT
    go_enter Tryz.func133, Tryz.ntmps133
    go_wp2_with (go_at_call 114; (with_reducible refine HN.out.mono ?_); rintro e v14 ⟨rfl, hx, hb⟩; dsimp only)
    have HX14 := Lib.hid hx
    have HB14 := Lib.hid (HB0.out.trans hb)
    clear hx hb
    have HY14 : Hid (LY B lb s pos start rs its v14) := Lib.hid ⟨_, HX14.out⟩
    go_wp2_with (go_at_call 151; (with_reducible refine (T1.out _).mono ?_); rintro e v15 ⟨rfl, rfl⟩; dsimp only)
    go_wp2_with (go_at_call 153; (with_reducible refine (T2.out _).mono ?_); rintro e v16 ⟨rfl, rfl⟩; dsimp only)
    go_wp2_with (go_at_call 115; (with_reducible refine (T3.out _).mono ?_); rintro e v17 ⟨rfl, rfl⟩; dsimp only)
    go_wp2_with (go_at_call 111; (with_reducible refine (HE.out _).mono ?_); rintro e vz ⟨N, rfl, hc, hb⟩; dsimp only)
    have HYz := Lib.hid (HY14.out.below hb)
    have HBz : Hid (Below B w vz) := Lib.hid (HB14.out.trans (hb.mono HY14.out.lt))
    have HCz := Lib.hid hc
    clear hb hc
    go_wp2
    go_ret
    exact ⟨N, _, rfl, HCz.out, HYz.out, HBz.out⟩
end Go.Proofs.YtackciefmdiphaaGreatDoor
