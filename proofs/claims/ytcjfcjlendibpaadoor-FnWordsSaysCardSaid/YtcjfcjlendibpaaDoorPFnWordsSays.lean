/- The walk of the law FnWordsSays. -/
import Derived.Test.YtcjfcjlendibpaaDoorPSaysE
import Derived.Test.YtcjfcjlendibpaaDoorPFnWordsEnvs
import Derived.Test.YtcjfcjlendibpaaDoorShellLaw
set_option linter.unusedVariables false
namespace Go.Proofs.YtcjfcjlendibpaaDoor
open Go.RowKit Plain Go.Proofs.YtcjfcjlendibpaaDoorW.PrintWords

theorem w_form {slp : Bool} {ANS : PA} {w0 w' : World} {e : Ending} (h : WPost slp ANS w0 e w') : ∃ v p b, e = .returned (.tuple #[v, .int .i64 p, .bool b]) ∧ Below w0.heap.size w0 w' := by
  obtain ⟨A, _, hb, hm⟩ := h
  cases A with
  | none => exact ⟨_, _, _, hm, hb⟩
  | some p =>
    obtain ⟨l, ps⟩ := p
    obtain ⟨g, c, _, _, he, _⟩ := hm
    exact ⟨_, _, _, he, hb⟩
theorem we_form {slp : Bool} {ANS : PA} {w0 w' : World} {e : Ending} (h : WEPost slp ANS w0 e w') : ∃ v1 v2 b, e = .returned (.tuple #[v1, v2, .bool b]) ∧ Below w0.heap.size w0 w' := by
  obtain ⟨A, _, hb, hm⟩ := h
  cases A with
  | none => exact ⟨_, _, _, hm, hb⟩
  | some p =>
    obtain ⟨l, ps⟩ := p
    obtain ⟨g1, c1, g2, c2, he, _⟩ := hm
    exact ⟨_, _, _, he, hb⟩
theorem own_ist {w : World} {B : Nat} {v : Value} {l : List (List UInt8)} (h : w.ownsRow B 9 1 v l.length (l.map strV)) (hl : l.length ≤ 1000) : IsT v l w := by
  rcases h.2 with ⟨rfl, h0⟩ | ⟨g, c, cur, rfl, _, _, hc, _⟩
  · have : l = [] := List.eq_nil_of_length_eq_zero h0
    subst this
    exact ⟨none, 0, rfl, Nat.le_refl _, kc_nil _⟩
  · exact ⟨_, c, rfl, hc, kc_own h rfl (by omega)⟩
theorem IsT.below {v : Value} {l : List (List UInt8)} {w w' : World} (h : IsT v l w) (hb : Below w.heap.size w w') : IsT v l w' := by
  obtain ⟨A, c, h1, h2, h3⟩ := h
  exact ⟨A, c, h1, h2, Kd.C_below h3 hb⟩
theorem ist_eq {v u : Value} {l : List (List UInt8)} {w : World} (h1 : IsT v l w) (h2 : IsT u l w) (hl : l.length ≤ 1000) : Calls Tryd.prog 13 #[v, u] w fun e w' => e = .returned (.bool true) ∧ Below w.heap.size w w' := by
  obtain ⟨A, c, rfl, h3, h4⟩ := h1
  obtain ⟨A2, c2, rfl, h5, h6⟩ := h2
  exact eqTexts_at A A2 l.length l.length c c2 (baOf l) (baOf l) w true h4 h6 (baOf_length l) (baOf_length l) h3 h5 (by omega) (by simp)
set_option maxHeartbeats 4000000 in
set_option maxRecDepth 100000 in
theorem fnWordsSays_walk (s : ByteArray) (env cmt : Bool) (w : World) (hs0 : s.size ≤ 140737488351232) (hE0 : EVar w) (hT0 : UTabs w) :
    Calls Tryd.prog 8 #[.string s, .bool env, .bool cmt] w fun e w' => e = .returned (.bool true) ∧ Below w.heap.size w w' := by
  by_cases hb : 2147483647 < s.size
  · have hbz : (2147483647 : Int) < (s.size : Int) := by omega
    go_enter Tryd.func8, Tryd.ntmps8
    go_wp2
    go_ret
    exact ⟨rfl, Below.refl _ _⟩
  have hbz : ¬ (2147483647 : Int) < (s.size : Int) := by omega
  have HO := Lib.hid (one_any w hE0)
  have HPV := Lib.hid (parseEnvName_any w hT0)
  have HE0 := Lib.hid hE0
  obtain ⟨fb, hfb⟩ : ∃ fb, decide (s.size + 1 ≤ 400) = fb := ⟨_, rfl⟩
  have HF := Lib.hid (fun (W : World) => few_at W.heap.size 1 s (W.alloc (.cells #[.string s] 9)) fb (kc_new W [s] 1 rfl (by decide)) (Nat.le_refl _) (by omega) hfb)
  have HFB := Lib.hid hfb
  clear hfb hE0 hT0
  go_enter Tryd.func8, Tryd.ntmps8
  go_wp2_with (go_at_call 9; (with_reducible refine HO.out.mono ?_); rintro e w1 ⟨rfl, hb1⟩; dsimp only)
  refine (HF.out w1).mono ?_
  rintro e w2 ⟨rfl, hb2⟩
  dsimp only
  have hb12 := bthen hb1 (bthen ((Below.refl _ w1).alloc (Nat.le_refl _) (.cells #[.string s] 9)) hb2)
  have HB2 := Lib.hid hb12
  have HE2 := Lib.hid (HE0.out.below hb12)
  clear hb1 hb2 hb12
  cases fb with
  | false =>
    go_wp2_with fail
    go_ret
    exact ⟨rfl, HB2.out⟩
  | true =>
    have hs4 : s.size ≤ 400 := by have := HFB.out; simp at this; omega
    obtain ⟨R, hR, hsw⟩ := swords_at s env cmt hs4
    have HSW := Lib.hid hsw
    have HRR := Lib.hid hR
    clear hsw hR
    cases R with
    | opn =>
      have HSE := Lib.hid (senvs_at s env cmt .opn HSW.out (fun l h => by cases h))
      go_wp2_with (go_at_call 23; (with_reducible refine (HSW.out _).mono ?_))
      intro e w3 hp
      obtain ⟨hb3, rfl⟩ := hp
      dsimp only
      have HB3 := Lib.hid (bthen HB2.out hb3)
      have HE3 := Lib.hid (HE2.out.below hb3)
      clear hb3
      have HW := Lib.hid (words_any s env cmt true none (fun h => by cases h) (fun h => by cases h) w3 (by omega) (fun _ => HPV.out.below HB3.out) HE3.out)
      go_wp2_with (go_at_call 11; (with_reducible refine HW.out.mono ?_))
      intro e w4 hp
      obtain ⟨v4, p4, b4, rfl, hb4⟩ := w_form hp
      clear hp
      dsimp only
      have HB4 := Lib.hid (bthen HB3.out hb4)
      have HE4 := Lib.hid (HE3.out.below hb4)
      clear hb4
      go_wp2_with (go_at_call 24; (with_reducible refine (HSE.out _).mono ?_))
      intro e w5 hp
      obtain ⟨hb5, rfl⟩ := hp
      dsimp only
      have HB5 := Lib.hid (bthen HB4.out hb5)
      have HE5 := Lib.hid (HE4.out.below hb5)
      clear hb5
      have HV := Lib.hid (wordsEnvs_any s env cmt true none (fun h => by cases h) (fun h => by cases h) w5 (by omega) (fun _ => HPV.out.below HB5.out) HE5.out)
      go_wp2_with (go_at_call 20; (with_reducible refine HV.out.mono ?_))
      intro e w6 hp
      obtain ⟨v6, u6, b6, rfl, hb6⟩ := we_form hp
      clear hp
      dsimp only
      have HB6 := Lib.hid (bthen HB5.out hb6)
      clear hb6
      go_wp2_with fail
      go_ret
      exact ⟨rfl, HB6.out⟩
    | no =>
      obtain ⟨hdol, hans⟩ : (env = true → 36 ∉ rnsOf s.data.toList) ∧ words cmt (rnsOf s.data.toList) = none := by
        rcases HRR.out with h | ⟨hv, hc, he⟩
        · cases h
        · have := says_ok cmt _ hv (fun c h => ⟨(hc c h).1, (hc c h).2.1, (hc c h).2.2.1, (hc c h).2.2.2.2.2.2⟩)
          rw [he] at this
          exact ⟨fun hen => no36 _ hv (fun c h => (hc c h).2.2.2.2.2.1 hen), this⟩
      have HSE := Lib.hid (senvs_at s env cmt .no HSW.out (fun l h => by cases h))
      have HWA := Lib.hid (fun (w3 : World) (hb3 : Below w.heap.size w w3) (hE : EVar w3) => words_any s env cmt false none (fun _ => hans) (fun _ => hdol) w3 (by omega) (fun _ => HPV.out.below hb3) hE)
      have HVA := Lib.hid (fun (w3 : World) (hb3 : Below w.heap.size w w3) (hE : EVar w3) => wordsEnvs_any s env cmt false none (fun _ => hans) (fun _ => hdol) w3 (by omega) (fun _ => HPV.out.below hb3) hE)
      clear hdol hans
      go_wp2_with (go_at_call 23; (with_reducible refine (HSW.out _).mono ?_))
      intro e w3 hp
      obtain ⟨hb3, rfl⟩ := hp
      dsimp only
      have HB3 := Lib.hid (bthen HB2.out hb3)
      have HE3 := Lib.hid (HE2.out.below hb3)
      clear hb3
      go_wp2_with (go_at_call 11; (with_reducible refine (HWA.out _ HB3.out HE3.out).mono ?_))
      intro e w4 hp
      obtain ⟨rfl, hb4⟩ := w0_none hp
      clear hp
      dsimp only
      have HB4 := Lib.hid (bthen HB3.out hb4)
      have HE4 := Lib.hid (HE3.out.below hb4)
      clear hb4
      go_wp2_with (go_at_call 24; (with_reducible refine (HSE.out _).mono ?_))
      intro e w5 hp
      obtain ⟨hb5, rfl⟩ := hp
      dsimp only
      have HB5 := Lib.hid (bthen HB4.out hb5)
      have HE5 := Lib.hid (HE4.out.below hb5)
      clear hb5
      go_wp2_with (go_at_call 20; (with_reducible refine (HVA.out _ HB5.out HE5.out).mono ?_))
      intro e w6 hp
      obtain ⟨rfl, hb6⟩ := we_none hp
      clear hp
      dsimp only
      have HB6 := Lib.hid (bthen HB5.out hb6)
      clear hb6
      go_wp2_with fail
      go_ret
      exact ⟨rfl, HB6.out⟩
    | yes l =>
      obtain ⟨hdol, ⟨pos, hans⟩, hbd1, hbd2⟩ : (env = true → 36 ∉ rnsOf s.data.toList) ∧ (∃ pos, words cmt (rnsOf s.data.toList) = some (l, pos)) ∧ (∀ x ∈ l, x.length ≤ 1000) ∧ l.length ≤ 1000 := by
        rcases HRR.out with h | ⟨hv, hc, he⟩
        · cases h
        · have := says_ok cmt _ hv (fun c h => ⟨(hc c h).1, (hc c h).2.1, (hc c h).2.2.1, (hc c h).2.2.2.2.2.2⟩)
          rw [he] at this
          have hb := words_bound _ _ he
          have hz := Lib.size_eq s
          exact ⟨fun hen => no36 _ hv (fun c h => (hc c h).2.2.2.2.2.1 hen), this, fun x hx => by have := hb.1 x hx; omega, by have := hb.2; omega⟩
      have HSE := Lib.hid (senvs_at s env cmt (.yes l) HSW.out (fun l2 h => by cases h; exact ⟨hbd2, hbd1⟩))
      have HWA := Lib.hid (fun (w3 : World) (hb3 : Below w.heap.size w w3) (hE : EVar w3) => words_any s env cmt false (some (l, pos)) (fun _ => hans) (fun _ => hdol) w3 (by omega) (fun _ => HPV.out.below hb3) hE)
      have HVA := Lib.hid (fun (w3 : World) (hb3 : Below w.heap.size w w3) (hE : EVar w3) => wordsEnvs_any s env cmt false (some (l, pos)) (fun _ => hans) (fun _ => hdol) w3 (by omega) (fun _ => HPV.out.below hb3) hE)
      have hcat := List.takeWhile_append_dropWhile (p := isEnvB) (l := l)
      have hlen : (l.takeWhile isEnvB).length + (l.dropWhile isEnvB).length = l.length := by rw [← List.length_append, hcat]
      have HLT := Lib.hid (show (l.takeWhile isEnvB).length ≤ 1000 by omega)
      have HLD := Lib.hid (show (l.dropWhile isEnvB).length ≤ 1000 by omega)
      have HL1 := Lib.hid hbd2
      clear hdol hans hcat hlen hbd1 hbd2
      go_wp2_with (go_at_call 23; (with_reducible refine (HSW.out _).mono ?_))
      intro e w3 hp
      obtain ⟨hb3, vo, rfl, ho3⟩ := hp
      dsimp only
      have HI3 := Lib.hid (own_ist ho3 HL1.out)
      have HB3 := Lib.hid (bthen HB2.out hb3)
      have HE3 := Lib.hid (HE2.out.below hb3)
      clear hb3 ho3
      go_wp2_with (go_at_call 11; (with_reducible refine (HWA.out _ HB3.out HE3.out).mono ?_))
      intro e w4 hp
      obtain ⟨g4, c4, rfl, ho4, hb4⟩ := w0_some hp
      clear hp
      dsimp only
      obtain ⟨v4, hv4⟩ : ∃ v4, Value.slice (some ⟨g4, 0, none⟩) l.length c4 = v4 := ⟨_, rfl⟩
      rw [hv4] at ho4 ⊢
      have HI4 := Lib.hid (own_ist ho4 HL1.out)
      have HI4' := Lib.hid (HI3.out.below hb4)
      have HB4 := Lib.hid (bthen HB3.out hb4)
      have HE4 := Lib.hid (HE3.out.below hb4)
      clear hb4 ho4 hv4
      go_wp2_with (go_at_call 24; (with_reducible refine (HSE.out _).mono ?_))
      intro e w5 hp
      obtain ⟨hb5, x1, x2, rfl, hx1, hx2⟩ := hp
      dsimp only
      have HI5 := Lib.hid (HI4.out.below hb5)
      have HI5' := Lib.hid (HI4'.out.below hb5)
      have HB5 := Lib.hid (bthen HB4.out hb5)
      have HE5 := Lib.hid (HE4.out.below hb5)
      have HX1 := Lib.hid hx1
      have HX2 := Lib.hid hx2
      clear hb5 hx1 hx2
      go_wp2_with (go_at_call 20; (with_reducible refine (HVA.out _ HB5.out HE5.out).mono ?_))
      intro e w6 hp
      obtain ⟨g6, c6, g7, c7, rfl, ho6, ho7, hb6⟩ := we_some hp
      clear hp
      dsimp only
      obtain ⟨y1, hy1⟩ : ∃ y1, Value.slice (some ⟨g6, 0, none⟩) (l.takeWhile isEnvB).length c6 = y1 := ⟨_, rfl⟩
      obtain ⟨y2, hy2⟩ : ∃ y2, Value.slice (some ⟨g7, 0, none⟩) (l.dropWhile isEnvB).length c7 = y2 := ⟨_, rfl⟩
      rw [hy1] at ho6 ⊢
      rw [hy2] at ho7 ⊢
      have HY1 := Lib.hid (own_ist ho6 HLT.out)
      have HY2 := Lib.hid (own_ist ho7 HLD.out)
      have HB6 := Lib.hid (bthen HB5.out hb6)
      have HQ1 := Lib.hid (ist_eq (HI5.out.below hb6) (HI5'.out.below hb6) HL1.out)
      have HQ2 := Lib.hid (fun W (hb : Below w6.heap.size w6 W) => ist_eq ((HX1.out.below hb6).below hb) (HY1.out.below hb) HLT.out)
      have HQ3 := Lib.hid (fun W (hb : Below w6.heap.size w6 W) => ist_eq ((HX2.out.below hb6).below hb) (HY2.out.below hb) HLD.out)
      clear hb6 ho6 ho7 hy1 hy2
      go_wp2_with (go_at_call 13; (with_reducible refine HQ1.out.mono ?_); rintro e w7 ⟨rfl, hb7⟩; dsimp only)
      refine (HQ2.out _ hb7).mono ?_
      rintro e w8 ⟨rfl, hb8⟩
      dsimp only
      go_wp2_with (go_at_call 13; (with_reducible refine (HQ3.out _ (bthen hb7 hb8)).mono ?_); rintro e w9 ⟨rfl, hb9⟩; dsimp only)
      go_ret
      exact ⟨rfl, bthen HB6.out (bthen hb7 (bthen hb8 hb9))⟩
end Go.Proofs.YtcjfcjlendibpaaDoor
