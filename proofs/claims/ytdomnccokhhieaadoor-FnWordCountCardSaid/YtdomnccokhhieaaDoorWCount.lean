/- The walk of xstrings.WordCount: how many words a text has. -/
import Derived.Test.YtdomnccokhhieaaDoorWords
namespace Go.Proofs.YtdomnccokhhieaaDoor
open Go.RowKit Plain

/-- how many words are begun: 'iw': one is begun already -/
def wc : List (List UInt8) → Bool → Nat
  | [], _ => 0
  | c :: cs, iw => if alpha (runeOf c) = true then (if iw then 0 else 1) + wc cs true else if iw = true ∧ (runeOf c = 39 ∨ runeOf c = 45) then wc cs true else wc cs false
theorem wc_new (c : List UInt8) (cs : List (List UInt8)) (h : alpha (runeOf c) = true) : wc (c :: cs) false = 1 + wc cs true := by rw [wc, if_pos h]; rfl
theorem wc_more (c : List UInt8) (cs : List (List UInt8)) (h : alpha (runeOf c) = true) : wc (c :: cs) true = wc cs true := by rw [wc, if_pos h]; simp
theorem wc_mark (c : List UInt8) (cs : List (List UInt8)) (h : alpha (runeOf c) = false) (k : runeOf c = 39 ∨ runeOf c = 45) : wc (c :: cs) true = wc cs true := by rw [wc, if_neg (by rw [h]; decide), if_pos ⟨rfl, k⟩]
theorem wc_stop (c : List UInt8) (cs : List (List UInt8)) (h : alpha (runeOf c) = false) (k : ¬ (runeOf c = 39 ∨ runeOf c = 45)) : wc (c :: cs) true = wc cs false := by rw [wc, if_neg (by rw [h]; decide), if_neg (fun h => k h.2)]
theorem wc_skip (c : List UInt8) (cs : List (List UInt8)) (h : alpha (runeOf c) = false) : wc (c :: cs) false = wc cs false := by rw [wc, if_neg (by rw [h]; decide), if_neg (fun h => by cases h.1)]
theorem ws_wc : ∀ (cs : List (List UInt8)) (st : Option (List UInt8)), (ws cs st).length = wc cs st.isSome + (if st.isSome then 1 else 0) := by
  intro cs
  induction cs with
  | nil => intro st; cases st <;> simp [ws, wc]
  | cons c cs ih =>
    intro st
    cases ha : alpha (runeOf c) with
    | true =>
      rw [ws_alpha _ _ _ ha, ih]
      cases st with
      | none => show wc cs true + 1 = wc (c :: cs) false + 0; rw [wc_new _ _ ha]; omega
      | some x => show wc cs true + 1 = wc (c :: cs) true + 1; rw [wc_more _ _ ha]
    | false =>
      cases st with
      | none => rw [ws_skip _ _ ha, ih]; show wc cs false + 0 = wc (c :: cs) false + 0; rw [wc_skip _ _ ha]
      | some x =>
        by_cases hk : runeOf c = 39 ∨ runeOf c = 45
        · rw [ws_mark _ _ _ ha hk, ih]; show wc cs true + 1 = wc (c :: cs) true + 1; rw [wc_mark _ _ ha hk]
        · rw [ws_end _ _ _ ha hk, List.length_cons, ih]; show wc cs false + 0 + 1 = wc (c :: cs) true + 1; rw [wc_stop _ _ ha hk]

set_option maxHeartbeats 4000000 in
set_option maxRecDepth 100000 in
theorem wordCount_any (s : ByteArray) (w : World) (hs : s.size ≤ 2147483647) (hT : Tabs w) (hP : PTab w) (hV : LTab w) :
    Calls Tryd.prog 39 #[.string s] w fun e w' => e = .returned (.int .i64 ((ws (segs s.data.toList) none).length : Int)) ∧ Below w.heap.size w w' := by
  have h0 := ws_wc (segs s.data.toList) none
  obtain ⟨Z, hZ⟩ : ∃ Z, (ws (segs s.data.toList) none).length = Z := ⟨_, rfl⟩
  rw [hZ] at h0 ⊢
  have HZ := Lib.hid (show Z = wc (segs s.data.toList) false by simpa using h0)
  clear hZ h0
  go_enter Tryd.func39, Tryd.ntmps39
  go_wp2
  go_loopw [0, 5, 6] (fun str nv iv wr => ∃ (t : ByteArray) (n : Nat) (iw : Bool), str = .string t ∧ nv = .int .i64 n ∧ iv = .bool iw ∧ n + wc (segs t.data.toList) iw = Z ∧ n + t.size ≤ s.size ∧ Below w.heap.size w wr) (fun str _ _ _ => match str with | .string t => t.size | _ => 0)
  case atStart => exact ⟨s, 0, false, rfl, rfl, rfl, by rw [HZ.out]; omega, by omega, Below.refl _ _⟩
  case round =>
    obtain ⟨t, n, iw, rfl, rfl, rfl, hc, hn, hbw⟩ := hrel
    have hTr := hT.below hbw
    have hPr := hP.below hbw
    have hVr := hV.below hbw
    have HC := Lib.hid hc
    clear hc
    by_cases ht0 : 0 < t.size
    · have htz : (0 : Int) < (t.size : Int) := by omega
      obtain ⟨R, K, hh⟩ := head_of t ht0
      have HH := Lib.hid hh
      have hK1 := hh.pos
      have hK2 := hh.le
      have HRS := Lib.hid (rest_of t K)
      have HSG := Lib.hid (show segs t.data.toList = t.data.toList.take K :: segs (t.extract K t.size).data.toList ∧ runeOf (t.data.toList.take K) = R from ⟨segs_rest t R K hh, hh.run.symm⟩)
      have hR1 := hh.rune
      clear hh
      cases hal : alpha R with
      | true =>
        have HAl := Lib.hid (fun (w : World) (h1 : PTab w) (h2 : LTab w) => hal ▸ alpha_any R w hR1 h1 h2)
        cases iw with
        | false =>
          go_wp2_with (go_at_call 51; (with_reducible refine (decode_any t _ hTr _ K HH).mono ?_); rintro e w1 ⟨rfl, hb1⟩; dsimp only)
          have hP1 := hPr.below hb1
          have hV1 := hVr.below hb1
          go_wp2_with (go_at_call 53; (with_reducible refine (HAl.out _ hP1 hV1).mono ?_); rintro e w2 ⟨rfl, hb2⟩; dsimp only)
          have hb12 := bthen hb1 hb2
          have hbw2 : Below w.heap.size w w2 := hbw.trans (hb12.mono hbw.size)
          go_wp2
          go_roundw
          case rel =>
            refine ⟨_, n + 1, true, rfl, by go_num, rfl, ?_, ?_, hbw2⟩
            · have h1 := HC.out
              rw [HSG.out.1, wc_new _ _ (by rw [HSG.out.2]; exact hal)] at h1
              omega
            · rw [HRS.out.2]; omega
          case measure =>
            have hrs := HRS.out.2
            simp only [hrs]
            omega
        | true =>
          go_wp2_with (go_at_call 51; (with_reducible refine (decode_any t _ hTr _ K HH).mono ?_); rintro e w1 ⟨rfl, hb1⟩; dsimp only)
          have hP1 := hPr.below hb1
          have hV1 := hVr.below hb1
          go_wp2_with (go_at_call 53; (with_reducible refine (HAl.out _ hP1 hV1).mono ?_); rintro e w2 ⟨rfl, hb2⟩; dsimp only)
          have hb12 := bthen hb1 hb2
          have hbw2 : Below w.heap.size w w2 := hbw.trans (hb12.mono hbw.size)
          go_wp2
          go_roundw
          case rel =>
            refine ⟨_, n, true, rfl, by go_num, rfl, ?_, ?_, hbw2⟩
            · have h1 := HC.out
              rw [HSG.out.1, wc_more _ _ (by rw [HSG.out.2]; exact hal)] at h1
              omega
            · rw [HRS.out.2]; omega
          case measure =>
            have hrs := HRS.out.2
            simp only [hrs]
            omega
      | false =>
        have HAl := Lib.hid (fun (w : World) (h1 : PTab w) (h2 : LTab w) => hal ▸ alpha_any R w hR1 h1 h2)
        cases iw with
        | false =>
          go_wp2_with (go_at_call 51; (with_reducible refine (decode_any t _ hTr _ K HH).mono ?_); rintro e w1 ⟨rfl, hb1⟩; dsimp only)
          have hP1 := hPr.below hb1
          have hV1 := hVr.below hb1
          go_wp2_with (go_at_call 53; (with_reducible refine (HAl.out _ hP1 hV1).mono ?_); rintro e w2 ⟨rfl, hb2⟩; dsimp only)
          have hb12 := bthen hb1 hb2
          have hbw2 : Below w.heap.size w w2 := hbw.trans (hb12.mono hbw.size)
          go_wp2
          go_roundw
          case rel =>
            refine ⟨_, n, false, rfl, by go_num, rfl, ?_, ?_, hbw2⟩
            · have h1 := HC.out
              rw [HSG.out.1, wc_skip _ _ (by rw [HSG.out.2]; exact hal)] at h1
              omega
            · rw [HRS.out.2]; omega
          case measure =>
            have hrs := HRS.out.2
            simp only [hrs]
            omega
        | true =>
          by_cases k1 : R = 39
          · have k2 : (((R : Int)) == 39) = true := by rw [beq_iff_eq]; omega
            have K1 := Lib.hid k1
            clear k1
            go_wp2_with (go_at_call 51; (with_reducible refine (decode_any t _ hTr _ K HH).mono ?_); rintro e w1 ⟨rfl, hb1⟩; dsimp only)
            have hP1 := hPr.below hb1
            have hV1 := hVr.below hb1
            go_wp2_with (go_at_call 53; (with_reducible refine (HAl.out _ hP1 hV1).mono ?_); rintro e w2 ⟨rfl, hb2⟩; dsimp only)
            have hb12 := bthen hb1 hb2
            have hbw2 : Below w.heap.size w w2 := hbw.trans (hb12.mono hbw.size)
            go_wp2
            go_roundw
            case rel =>
              refine ⟨_, n, true, rfl, by go_num, rfl, ?_, ?_, hbw2⟩
              · have h1 := HC.out
                rw [HSG.out.1, wc_mark _ _ (by rw [HSG.out.2]; exact hal) (by rw [HSG.out.2]; exact .inl K1.out)] at h1
                omega
              · rw [HRS.out.2]; omega
            case measure =>
              have hrs := HRS.out.2
              simp only [hrs]
              omega
          have k2 : (((R : Int)) == 39) = false := by rw [beq_eq_false_iff_ne]; omega
          by_cases k3 : R = 45
          · have k4 : (((R : Int)) == 45) = true := by rw [beq_iff_eq]; omega
            have K3 := Lib.hid k3
            clear k3
            go_wp2_with (go_at_call 51; (with_reducible refine (decode_any t _ hTr _ K HH).mono ?_); rintro e w1 ⟨rfl, hb1⟩; dsimp only)
            have hP1 := hPr.below hb1
            have hV1 := hVr.below hb1
            go_wp2_with (go_at_call 53; (with_reducible refine (HAl.out _ hP1 hV1).mono ?_); rintro e w2 ⟨rfl, hb2⟩; dsimp only)
            have hb12 := bthen hb1 hb2
            have hbw2 : Below w.heap.size w w2 := hbw.trans (hb12.mono hbw.size)
            go_wp2
            go_roundw
            case rel =>
              refine ⟨_, n, true, rfl, by go_num, rfl, ?_, ?_, hbw2⟩
              · have h1 := HC.out
                rw [HSG.out.1, wc_mark _ _ (by rw [HSG.out.2]; exact hal) (by rw [HSG.out.2]; exact .inr K3.out)] at h1
                omega
              · rw [HRS.out.2]; omega
            case measure =>
              have hrs := HRS.out.2
              simp only [hrs]
              omega
          · have k4 : (((R : Int)) == 45) = false := by rw [beq_eq_false_iff_ne]; omega
            go_wp2_with (go_at_call 51; (with_reducible refine (decode_any t _ hTr _ K HH).mono ?_); rintro e w1 ⟨rfl, hb1⟩; dsimp only)
            have hP1 := hPr.below hb1
            have hV1 := hVr.below hb1
            go_wp2_with (go_at_call 53; (with_reducible refine (HAl.out _ hP1 hV1).mono ?_); rintro e w2 ⟨rfl, hb2⟩; dsimp only)
            have hb12 := bthen hb1 hb2
            have hbw2 : Below w.heap.size w w2 := hbw.trans (hb12.mono hbw.size)
            go_wp2
            go_roundw
            case rel =>
              refine ⟨_, n, false, rfl, by go_num, rfl, ?_, ?_, hbw2⟩
              · have h1 := HC.out
                rw [HSG.out.1, wc_stop _ _ (by rw [HSG.out.2]; exact hal) (by rw [HSG.out.2]; omega)] at h1
                omega
              · rw [HRS.out.2]; omega
            case measure =>
              have hrs := HRS.out.2
              simp only [hrs]
              omega
    · have htz : ¬ (0 : Int) < (t.size : Int) := by omega
      have hfin := HC.out
      rw [segs_empty t ht0] at hfin
      have HF := Lib.hid (show n = Z from hfin)
      clear hfin
      go_wp2
      go_ret
      exact ⟨ret_int (by rw [HF.out]), hbw⟩
theorem implWordCount_any (s : ByteArray) (w : World) (hs : s.size ≤ 2147483647) (hT : Tabs w) (hP : PTab w) (hV : LTab w) (n : Nat) (hn : (ws (segs s.data.toList) none).length = n) :
    Calls Tryd.prog 20 #[.string s] w fun e w' => e = .returned (.int .i64 (n : Int)) ∧ Below w.heap.size w w' := by
  have cC := Lib.hid (hn ▸ wordCount_any s w hs hT hP hV)
  clear hn
  go_enter Tryd.func20, Tryd.ntmps20
  go_wp2_with (go_at_call 39; (with_reducible refine cC.out.mono ?_); rintro e w1 ⟨rfl, hb⟩; dsimp only)
  go_wp2
  go_ret
  exact ⟨rfl, hb⟩
end Go.Proofs.YtdomnccokhhieaaDoor
