/- The lexer's states lexBeforeKey, lexComment, lexBeforeValue. -/
import Derived.Test.YtackciefmdiphaaGreatDoorLexEsc
set_option linter.unusedVariables false
namespace Go.Proofs.YtackciefmdiphaaGreatDoor
open Go.RowKit Plain

/-- a state as a function's value -/
def nxV : NX → Value
  | .before => .func (.func 101) #[] #[]
  | .comment => .func (.func 120) #[] #[]
  | .key => .func (.func 123) #[] #[]
  | .bval => .func (.func 136) #[] #[]
  | .val => .func (.func 156) #[] #[]
def StPost (B lb : Nat) (s : ByteArray) (its : List LI) (r : List LI × Option (NX × Nat)) (w : World) (e : Ending) (w' : World) : Prop :=
  (match r.2 with
    | some x => e = .returned (nxV x.1) ∧ (∃ st, LY B lb s x.2 st [] (its ++ r.1) w' ∧ (x.1 = .comment ∨ st = x.2))
    | none => e = .returned .nilFunc ∧ ∃ q st rs, LY B lb s q st rs (its ++ r.1) w') ∧ Below B w w'
theorem LY.nil {B lb pos start : Nat} {s : ByteArray} {rs : List Nat} {its : List LI} {w : World} (h : LY B lb s pos start rs its w) : LY B lb s pos start rs (its ++ []) w := by rw [List.append_nil]; exact h
theorem emitL (B lb pos start k : Nat) (ki : Int) (hki : (k : Int) = ki) (s : ByteArray) (rs : List Nat) (its : List LI) (w : World) (h : LY B lb s pos start rs its w) (hn : its.length ≤ 1000000) :
    Calls Tryz.prog 116 #[.pointer (some ⟨lb, 0, none⟩), .int .i64 ki] w (YPost B lb s pos pos [] (its ++ [⟨k, start, textOf rs⟩]) (.returned (.tuple #[])) w) := by
  subst hki
  exact emitY B lb pos start k s rs its w h hn
theorem textOf_nil : textOf [] = emptyB := rfl
theorem LY.len {B lb pos start : Nat} {s : ByteArray} {rs : List Nat} {its : List LI} {w : World} (h : LY B lb s pos start rs its w) : ∃ g cap, w.cell? ⟨lb, 6, none⟩ = some (.slice (some ⟨g, 0, none⟩) rs.length cap) := by
  obtain ⟨wd, ⟨⟨st, lp, rv, iv, h1, _, _, ⟨g, cap, rfl⟩⟩, _⟩⟩ := h
  exact ⟨g, cap, (lx_cells h1).2.2.2.2.1⟩
set_option maxHeartbeats 8000000 in
set_option maxRecDepth 100000 in
theorem before_any (B lb pos start : Nat) (s : ByteArray) (its : List LI) (w : World) (h : LY B lb s pos start [] its w) (hs : s.size ≤ 2147483647) (hp2 : pos ≤ s.size) (hi : its.length ≤ 900000) (hT : TabsL B w) (hst : start = pos) (r : List LI × Option (NX × Nat)) (hr : lexS s .before pos = r) :
    Calls Tryz.prog 101 #[.pointer (some ⟨lb, 0, none⟩)] w (StPost B lb s its r w) := by
  subst hst
  have HB0 : Hid (Below B w w) := Lib.hid (Below.refl B w)
  unfold lexS at hr
  dsimp only at hr
  by_cases hlt : start < s.size
  · rw [if_pos hlt] at hr
    obtain ⟨R, hR⟩ : ∃ R, rAt s start = R := ⟨_, rfl⟩
    obtain ⟨K, hK⟩ : ∃ K, kAt s start = K := ⟨_, rfl⟩
    have hok := rAt_ok s start
    have hk := kAt_pos s start hlt
    rw [hR] at hok
    rw [hK] at hk
    have HN := Lib.hid (nextY_at B lb start start s [] its w h hs hlt hT R K hR hK)
    rw [hR, hK] at hr
    have TE := Lib.hid (fun w => isEOF_at R w)
    have IG := Lib.hid (fun w' (h : LY B lb s (start + K) start [] its w') => ignoreY B lb (start + K) start s [] its w' h)
    cases h1 : eolR R with
    | true =>
      rw [h1, if_pos rfl] at hr
      subst hr
      unfold StPost
      have T1 := Lib.hid (fun w => isEOL_at R w true h1)
      clear hR hK hok h1 h hT
      go_enter Tryz.func101, Tryz.ntmps101
      go_wp2_with (go_at_call 114; (with_reducible refine HN.out.mono ?_); rintro e v1 ⟨rfl, hx, hb⟩; dsimp only)
      have HX1 := Lib.hid hx
      have HB1 := Lib.hid (HB0.out.trans hb)
      clear hx hb
      have HY1 : Hid (LY B lb s (start + K) start [] its v1) := Lib.hid ⟨_, HX1.out⟩
      go_wp2_with (go_at_call 115; (with_reducible refine (TE.out _).mono ?_); rintro e v2 ⟨rfl, rfl⟩; dsimp only)
      go_wp2_with (go_at_call 117; (with_reducible refine (T1.out _).mono ?_); rintro e v3 ⟨rfl, rfl⟩; dsimp only)
      go_wp2_with (go_at_call 118; (with_reducible refine (IG.out _ HY1.out).mono ?_); rintro e v4 ⟨rfl, hy, hb⟩; dsimp only)
      have HY4 := Lib.hid hy
      have HB4 := Lib.hid (HB1.out.trans hb)
      clear hy hb
      go_wp2
      go_ret
      exact ⟨⟨rfl, _, HY4.out.nil, .inr rfl⟩, HB4.out⟩
    | false =>
      rw [h1, if_neg (by decide)] at hr
      have T1 := Lib.hid (fun w => isEOL_at R w false h1)
      by_cases h2 : R = 35 ∨ R = 33
      · rw [if_pos h2] at hr
        subst hr
        unfold StPost
        have T2 := Lib.hid (fun w => isCom_at R w true (by simp; exact h2))
        clear hR hK hok h1 h hT h2
        go_enter Tryz.func101, Tryz.ntmps101
        go_wp2_with (go_at_call 114; (with_reducible refine HN.out.mono ?_); rintro e v5 ⟨rfl, hx, hb⟩; dsimp only)
        have HX5 := Lib.hid hx
        have HB5 := Lib.hid (HB0.out.trans hb)
        clear hx hb
        have HY5 : Hid (LY B lb s (start + K) start [] its v5) := Lib.hid ⟨_, HX5.out⟩
        go_wp2_with (go_at_call 115; (with_reducible refine (TE.out _).mono ?_); rintro e v6 ⟨rfl, rfl⟩; dsimp only)
        go_wp2_with (go_at_call 117; (with_reducible refine (T1.out _).mono ?_); rintro e v7 ⟨rfl, rfl⟩; dsimp only)
        go_wp2_with (go_at_call 119; (with_reducible refine (T2.out _).mono ?_); rintro e v8 ⟨rfl, rfl⟩; dsimp only)
        go_wp2
        go_ret
        exact ⟨⟨rfl, _, HY5.out.nil, .inl (by trivial)⟩, HB5.out⟩
      · rw [if_neg h2] at hr
        have T2 := Lib.hid (fun w => isCom_at R w false (by simp; omega))
        cases h3 : wsR R with
        | true =>
          rw [h3, if_pos rfl] at hr
          subst hr
          unfold StPost
          have T3 := Lib.hid (fun w => isWs_at R w hok true h3)
          clear hR hK hok h1 h hT h2 h3
          go_enter Tryz.func101, Tryz.ntmps101
          go_wp2_with (go_at_call 114; (with_reducible refine HN.out.mono ?_); rintro e v9 ⟨rfl, hx, hb⟩; dsimp only)
          have HX9 := Lib.hid hx
          have HB9 := Lib.hid (HB0.out.trans hb)
          clear hx hb
          have HY9 : Hid (LY B lb s (start + K) start [] its v9) := Lib.hid ⟨_, HX9.out⟩
          go_wp2_with (go_at_call 115; (with_reducible refine (TE.out _).mono ?_); rintro e v10 ⟨rfl, rfl⟩; dsimp only)
          go_wp2_with (go_at_call 117; (with_reducible refine (T1.out _).mono ?_); rintro e v11 ⟨rfl, rfl⟩; dsimp only)
          go_wp2_with (go_at_call 119; (with_reducible refine (T2.out _).mono ?_); rintro e v12 ⟨rfl, rfl⟩; dsimp only)
          go_wp2_with (go_at_call 121; (with_reducible refine (T3.out _).mono ?_); rintro e v13 ⟨rfl, hb⟩; dsimp only)
          have HY13 := Lib.hid (HY9.out.below hb)
          have HB13 : Hid (Below B w v13) := Lib.hid (HB9.out.trans (hb.mono HY9.out.lt))
          clear hb
          go_wp2_with (go_at_call 118; (with_reducible refine (IG.out _ HY13.out).mono ?_); rintro e v14 ⟨rfl, hy, hb⟩; dsimp only)
          have HY14 := Lib.hid hy
          have HB14 := Lib.hid (HB13.out.trans hb)
          clear hy hb
          go_wp2
          go_ret
          exact ⟨⟨rfl, _, HY14.out.nil, .inr rfl⟩, HB14.out⟩
        | false =>
          rw [h3, if_neg (by decide)] at hr
          subst hr
          unfold StPost
          have T3 := Lib.hid (fun w => isWs_at R w hok false h3)
          have BK := Lib.hid (fun w' (h : LX B lb s (start + K) start K [] its w') => backupY B lb start K start s [] its w' h (by omega))
          clear hR hK hok h1 h hT h2 h3
          go_enter Tryz.func101, Tryz.ntmps101
          go_wp2_with (go_at_call 114; (with_reducible refine HN.out.mono ?_); rintro e v15 ⟨rfl, hx, hb⟩; dsimp only)
          have HX15 := Lib.hid hx
          have HB15 := Lib.hid (HB0.out.trans hb)
          clear hx hb
          go_wp2_with (go_at_call 115; (with_reducible refine (TE.out _).mono ?_); rintro e v16 ⟨rfl, rfl⟩; dsimp only)
          go_wp2_with (go_at_call 117; (with_reducible refine (T1.out _).mono ?_); rintro e v17 ⟨rfl, rfl⟩; dsimp only)
          go_wp2_with (go_at_call 119; (with_reducible refine (T2.out _).mono ?_); rintro e v18 ⟨rfl, rfl⟩; dsimp only)
          go_wp2_with (go_at_call 121; (with_reducible refine (T3.out _).mono ?_); rintro e v19 ⟨rfl, hb⟩; dsimp only)
          have HX19 := Lib.hid (HX15.out.below hb)
          have HB19 : Hid (Below B w v19) := Lib.hid (HB15.out.trans (hb.mono (Nat.le_trans HX15.out.lo (Nat.le_of_lt HX15.out.lt))))
          clear hb
          go_wp2_with (go_at_call 122; (with_reducible refine (BK.out _ HX19.out).mono ?_); rintro e v20 ⟨rfl, hy, hb⟩; dsimp only)
          have HY20 := Lib.hid hy
          have HB20 := Lib.hid (HB19.out.trans hb)
          clear hy hb
          go_wp2
          go_ret
          exact ⟨⟨rfl, _, HY20.out.nil, .inr rfl⟩, HB20.out⟩
  · rw [if_neg hlt] at hr
    subst hr
    unfold StPost
    have HN := Lib.hid (nextY_end B lb start start s [] its w h hs hlt hp2)
    have TE := Lib.hid (fun w => isEOF_eof w)
    have EM := Lib.hid (fun w' (h : LY B lb s start start [] its w') => emitL B lb start start 1 1 rfl s [] its w' h (by omega))
    clear h hT
    go_enter Tryz.func101, Tryz.ntmps101
    go_wp2_with (go_at_call 114; (with_reducible refine HN.out.mono ?_); rintro e v21 ⟨rfl, hx, hb⟩; dsimp only)
    have HX21 := Lib.hid hx
    have HB21 := Lib.hid (HB0.out.trans hb)
    clear hx hb
    have HY21 : Hid (LY B lb s start start [] its v21) := Lib.hid ⟨_, HX21.out⟩
    go_wp2_with (go_at_call 115; (with_reducible refine (TE.out _).mono ?_); rintro e v22 ⟨rfl, rfl⟩; dsimp only)
    go_wp2_with (go_at_call 116; (with_reducible refine (EM.out _ HY21.out).mono ?_); rintro e v23 ⟨rfl, hy, hb⟩; dsimp only)
    have HY23 := Lib.hid hy
    have HB23 := Lib.hid (HB21.out.trans hb)
    clear hy hb
    go_wp2
    go_ret
    exact ⟨⟨rfl, _, _, _, HY23.out⟩, HB23.out⟩
set_option maxHeartbeats 8000000 in
set_option maxRecDepth 100000 in
theorem bval_any (B lb pos start : Nat) (s : ByteArray) (its : List LI) (w : World) (h : LY B lb s pos start [] its w) (hs : s.size ≤ 2147483647) (hp2 : pos ≤ s.size) (hi : its.length ≤ 900000) (hT : TabsL B w) (r : List LI × Option (NX × Nat)) (hr : lexS s .bval pos = r) :
    Calls Tryz.prog 136 #[.pointer (some ⟨lb, 0, none⟩)] w (StPost B lb s its r w) := by
  have HB0 : Hid (Below B w w) := Lib.hid (Below.refl B w)
  have HT := Lib.hid hT
  unfold lexS bvalP at hr
  dsimp only at hr
  have HY0 := Lib.hid h
  obtain ⟨p1, h1⟩ : ∃ p1, skipW s pos = p1 := ⟨_, rfl⟩
  have q1 := skipW_le s pos hp2
  rw [h1] at hr q1
  obtain ⟨p2, h2⟩ : ∃ p2, accS s p1 = p2 := ⟨_, rfl⟩
  have q2 := (accS_bd s p1 q1).2
  rw [h2] at hr q2
  obtain ⟨p3, h3⟩ : ∃ p3, skipW s p2 = p3 := ⟨_, rfl⟩
  rw [h3] at hr
  subst hr
  unfold StPost
  have R1 := Lib.hid (fun w' (h : LY B lb s pos start [] its w') (hT : TabsL B w') => run_ws B lb pos start p1 s [] its w' h hs hp2 hT h1)
  have R2 := Lib.hid (fun w' (h : LY B lb s p1 start [] its w') (hT : TabsL B w') => acc_any B lb p1 start p2 s [] its w' h hs q1 hT h2)
  have R3 := Lib.hid (fun w' (h : LY B lb s p2 start [] its w') (hT : TabsL B w') => run_ws B lb p2 start p3 s [] its w' h hs q2 hT h3)
  have R4 := Lib.hid (fun w' (h : LY B lb s p3 start [] its w') => ignoreY B lb p3 start s [] its w' h)
  clear h hT h1 h2 h3
  go_enter Tryz.func136, Tryz.ntmps136
  go_wp2_with (go_at_call 130; (with_reducible refine (R1.out _ HY0.out HT.out).mono ?_); rintro e v1 ⟨rfl, hy, hb⟩; dsimp only)
  have HY1 := Lib.hid hy
  have HB1 := Lib.hid (HB0.out.trans hb)
  clear hy hb
  go_wp2_with (go_at_call 155; (with_reducible refine (R2.out _ HY1.out (HT.out.below HB1.out)).mono ?_); rintro e v2 ⟨bb, rfl, hy, hb⟩; dsimp only)
  have HY2 := Lib.hid hy
  have HB2 := Lib.hid (HB1.out.trans hb)
  clear hy hb
  go_wp2_with (go_at_call 130; (with_reducible refine (R3.out _ HY2.out (HT.out.below HB2.out)).mono ?_); rintro e v3 ⟨rfl, hy, hb⟩; dsimp only)
  have HY3 := Lib.hid hy
  have HB3 := Lib.hid (HB2.out.trans hb)
  clear hy hb
  go_wp2_with (go_at_call 118; (with_reducible refine (R4.out _ HY3.out).mono ?_); rintro e v4 ⟨rfl, hy, hb⟩; dsimp only)
  have HY4 := Lib.hid hy
  have HB4 := Lib.hid (HB3.out.trans hb)
  clear hy hb
  go_wp2
  go_ret
  exact ⟨⟨rfl, _, HY4.out.nil, .inr rfl⟩, HB4.out⟩
set_option maxHeartbeats 8000000 in
set_option maxRecDepth 100000 in
theorem comment_any (B lb pos start : Nat) (s : ByteArray) (its : List LI) (w : World) (h : LY B lb s pos start [] its w) (hs : s.size ≤ 2147483647) (hp2 : pos ≤ s.size) (hi : its.length ≤ 900000) (hT : TabsL B w) (r : List LI × Option (NX × Nat)) (hr : lexS s .comment pos = r) :
    Calls Tryz.prog 120 #[.pointer (some ⟨lb, 0, none⟩)] w (StPost B lb s its r w) := by
  have HB0 : Hid (Below B w w) := Lib.hid (Below.refl B w)
  have HT := Lib.hid hT
  unfold lexS at hr
  dsimp only at hr
  have HY0 := Lib.hid h
  obtain ⟨p1, h1⟩ : ∃ p1, skipW s pos = p1 := ⟨_, rfl⟩
  have q1 := skipW_le s pos hp2
  rw [h1] at hr q1
  obtain ⟨T, hTT⟩ : ∃ T, comL s p1 [] = T := ⟨_, rfl⟩
  rw [hTT] at hr
  have R1 := Lib.hid (fun w' (h : LY B lb s pos start [] its w') (hT : TabsL B w') => run_ws B lb pos start p1 s [] its w' h hs hp2 hT h1)
  have R4 := Lib.hid (fun w' (h : LY B lb s p1 start [] its w') => ignoreY B lb p1 start s [] its w' h)
  have HTT := Lib.hid hTT
  have HRR := Lib.hid hr
  clear h hT h1 hr hTT
  go_enter Tryz.func120, Tryz.ntmps120
  go_wp2_with (go_at_call 130; (with_reducible refine (R1.out _ HY0.out HT.out).mono ?_); rintro e v1 ⟨rfl, hy, hb⟩; dsimp only)
  have HY1 := Lib.hid hy
  have HB1 := Lib.hid (HB0.out.trans hb)
  clear hy hb
  go_wp2_with (go_at_call 118; (with_reducible refine (R4.out _ HY1.out).mono ?_); rintro e v2 ⟨rfl, hy, hb⟩; dsimp only)
  have HY2 := Lib.hid hy
  have HB2 := Lib.hid (HB1.out.trans hb)
  clear hy hb
  go_wp2
  go_loopg [3] (s.size - p1 + 1) (fun g rv wr => ∃ (p : Nat) (acc : List Nat), g = s.size - p + 1 ∧ p ≤ s.size ∧ Hid (acc.length ≤ p) ∧ Hid (LY B lb s p p1 acc its wr) ∧ Hid (Below B w wr) ∧ Hid (comL s p acc = T))
  case atStart => exact ⟨p1, [], rfl, q1, Nat.zero_le _, HY2, HB2, HTT⟩
  case round =>
    obtain ⟨p, acc, rfl, hp, HA, HYL, HBL, HC⟩ := hrel
    have hTr := HT.out.below HBL.out
    have hC := HC.out
    rw [comL] at hC
    by_cases hlt : p < s.size
    · rw [dif_pos hlt] at hC
      obtain ⟨R, hR⟩ : ∃ R, rAt s p = R := ⟨_, rfl⟩
      obtain ⟨K, hK⟩ : ∃ K, kAt s p = K := ⟨_, rfl⟩
      have hk := kAt_pos s p hlt
      rw [hR, hK] at hC
      rw [hK] at hk
      have HN := Lib.hid (nextY_at B lb p p1 s acc its wr HYL.out hs hlt hTr R K hR hK)
      have TE := Lib.hid (fun w => isEOF_at R w)
      cases h1 : eolR R with
      | true =>
        rw [h1, if_pos rfl] at hC
        subst hC
        have hr := HRR.out
        dsimp only at hr
        subst hr
        unfold StPost
        have T1 := Lib.hid (fun w => isEOL_at R w true h1)
        have EM := Lib.hid (fun w' (h : LY B lb s (p + K) p1 acc its w') => emitL B lb (p + K) p1 4 4 rfl s acc its w' h (by omega))
        clear hR hK h1 hTr
        go_wp2_with (go_at_call 114; (with_reducible refine HN.out.mono ?_); rintro e v3 ⟨rfl, hx, hb⟩; dsimp only)
        have HX3 := Lib.hid hx
        have HB3 := Lib.hid (HBL.out.trans hb)
        clear hx hb
        have HY3 : Hid (LY B lb s (p + K) p1 acc its v3) := Lib.hid ⟨_, HX3.out⟩
        go_wp2_with (go_at_call 115; (with_reducible refine (TE.out _).mono ?_); rintro e v4 ⟨rfl, rfl⟩; dsimp only)
        go_wp2_with (go_at_call 117; (with_reducible refine (T1.out _).mono ?_); rintro e v5 ⟨rfl, rfl⟩; dsimp only)
        go_wp2_with (go_at_call 116; (with_reducible refine (EM.out _ HY3.out).mono ?_); rintro e v6 ⟨rfl, hy, hb⟩; dsimp only)
        have HY6 := Lib.hid hy
        have HB6 := Lib.hid (HB3.out.trans hb)
        clear hy hb
        go_wp2
        go_ret
        exact ⟨⟨rfl, _, HY6.out, .inr rfl⟩, HB6.out⟩
      | false =>
        rw [h1, if_neg (by decide)] at hC
        have HC2 := Lib.hid hC
        have T1 := Lib.hid (fun w => isEOL_at R w false h1)
        have AP := Lib.hid (fun w' (h : LY B lb s (p + K) p1 acc its w') => appendY B lb (p + K) p1 R s acc its w' h (by have := HA.out; omega))
        clear hR hK h1 hTr hC
        go_wp2_with (go_at_call 114; (with_reducible refine HN.out.mono ?_); rintro e v7 ⟨rfl, hx, hb⟩; dsimp only)
        have HX7 := Lib.hid hx
        have HB7 := Lib.hid (HBL.out.trans hb)
        clear hx hb
        have HY7 : Hid (LY B lb s (p + K) p1 acc its v7) := Lib.hid ⟨_, HX7.out⟩
        go_wp2_with (go_at_call 115; (with_reducible refine (TE.out _).mono ?_); rintro e v8 ⟨rfl, rfl⟩; dsimp only)
        go_wp2_with (go_at_call 117; (with_reducible refine (T1.out _).mono ?_); rintro e v9 ⟨rfl, rfl⟩; dsimp only)
        go_wp2_with (go_at_call 131; (with_reducible refine (AP.out _ HY7.out).mono ?_); rintro e v10 ⟨rfl, hy, hb⟩; dsimp only)
        have HY10 := Lib.hid hy
        have HB10 := Lib.hid (HB7.out.trans hb)
        clear hy hb
        go_wp2
        go_roundg (s.size - (p + K) + 1)
        case measure => omega
        case rel => exact ⟨p + K, acc ++ [R], rfl, hk.2, Lib.hid (by have := HA.out; simp; omega), HY10, HB10, HC2⟩
    · rw [dif_neg hlt] at hC
      subst hC
      have hr := HRR.out
      dsimp only at hr
      subst hr
      unfold StPost
      have HN := Lib.hid (nextY_end B lb p p1 s acc its wr HYL.out hs hlt hp)
      have TE := Lib.hid (fun w => isEOF_eof w)
      have IG := Lib.hid (fun w' (h : LY B lb s p p1 acc its w') => ignoreY B lb p p1 s acc its w' h)
      have EM := Lib.hid (fun w' (h : LY B lb s p p acc its w') => emitL B lb p p 1 1 rfl s acc its w' h (by omega))
      clear hTr
      go_wp2_with (go_at_call 114; (with_reducible refine HN.out.mono ?_); rintro e v11 ⟨rfl, hx, hb⟩; dsimp only)
      have HX11 := Lib.hid hx
      have HB11 := Lib.hid (HBL.out.trans hb)
      clear hx hb
      have HY11 : Hid (LY B lb s p p1 acc its v11) := Lib.hid ⟨_, HX11.out⟩
      go_wp2_with (go_at_call 115; (with_reducible refine (TE.out _).mono ?_); rintro e v12 ⟨rfl, rfl⟩; dsimp only)
      go_wp2_with (go_at_call 118; (with_reducible refine (IG.out _ HY11.out).mono ?_); rintro e v13 ⟨rfl, hy, hb⟩; dsimp only)
      have HY13 := Lib.hid hy
      have HB13 := Lib.hid (HB11.out.trans hb)
      clear hy hb
      go_wp2_with (go_at_call 116; (with_reducible refine (EM.out _ HY13.out).mono ?_); rintro e v14 ⟨rfl, hy, hb⟩; dsimp only)
      have HY14 := Lib.hid hy
      have HB14 := Lib.hid (HB13.out.trans hb)
      clear hy hb
      go_wp2
      go_ret
      exact ⟨⟨rfl, _, _, _, HY14.out⟩, HB14.out⟩
end Go.Proofs.YtackciefmdiphaaGreatDoor
