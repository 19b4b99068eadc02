/- The walk of the law FnWordCount. -/
import Derived.Test.YtdomnccokhhieaaDoorWCount
import Derived.Test.YtdomnccokhhieaaDoorEqTexts
import Derived.Test.YtdomnccokhhieaaDoorAt
import Derived.Test.YtdomnccokhhieaaDoorPlainW
namespace Go.Proofs.YtdomnccokhhieaaDoor
open Go.RowKit Plain

/-- the words stand in a text, one behind the other -/
def Emb : List (List UInt8) → List UInt8 → Prop
  | [], _ => True
  | w :: W, l => ∃ g r, l = g ++ (w ++ r) ∧ Emb W r
theorem emb_pre (g : List UInt8) : ∀ (W : List (List UInt8)) (l : List UInt8), Emb W l → Emb W (g ++ l)
  | [], _, _ => trivial
  | w :: W, l, ⟨g1, r, h, hr⟩ => ⟨g ++ g1, r, by rw [h, List.append_assoc], hr⟩
theorem ws_emb : ∀ (cs : List (List UInt8)), Emb (ws cs none) cs.flatten ∧ ∀ w, Emb (ws cs (some w)) (w ++ cs.flatten) := by
  intro cs
  induction cs with
  | nil => exact ⟨trivial, fun w => ⟨[], [], by simp, trivial⟩⟩
  | cons c cs ih =>
    cases ha : alpha (runeOf c) with
    | true =>
      refine ⟨?_, fun w => ?_⟩
      · rw [ws_alpha _ _ _ ha]; have := ih.2 c; simpa using this
      · rw [ws_alpha _ _ _ ha]; have := ih.2 (w ++ c); simpa using this
    | false =>
      refine ⟨?_, fun w => ?_⟩
      · rw [ws_skip _ _ ha, List.flatten_cons]; exact emb_pre c _ _ ih.1
      · by_cases hk : runeOf c = 39 ∨ runeOf c = 45
        · rw [ws_mark _ _ _ ha hk]; have := ih.2 (w ++ c); simpa using this
        · rw [ws_end _ _ _ ha hk]
          exact ⟨[], c ++ cs.flatten, by simp, emb_pre c _ _ ih.1⟩
/-- a word begins as words do -/
def Hd (w : List UInt8) : Prop := ∃ b r, w = b :: r ∧ b.toNat ≠ 39 ∧ b.toNat ≠ 45
theorem alpha_marks : alpha 39 = false ∧ alpha 45 = false := by decide +kernel
theorem hd_piece {c : List UInt8} (h0 : c ≠ []) (ha : alpha (runeOf c) = true) : Hd c := by
  cases c with
  | nil => exact absurd rfl h0
  | cons b r =>
    have key : b.toNat < 128 → runeOf (b :: r) = b.toNat := fun h => by
      have h1 := segs_ascii b r h
      have h2 := segs_step (b :: r) (by simp)
      rw [h1] at h2
      have h3 := (List.cons.inj h2).1
      have h4 := decodeL_take (b :: r) (by simp)
      rw [← h3] at h4
      have h5 := runeOf_ascii b h
      unfold runeOf at h5 ⊢
      rw [← h4]; exact h5
    refine ⟨b, r, rfl, fun h => ?_, fun h => ?_⟩
    · rw [key (by omega), h, alpha_marks.1] at ha; cases ha
    · rw [key (by omega), h, alpha_marks.2] at ha; cases ha
theorem hd_append {w c : List UInt8} (h : Hd w) : Hd (w ++ c) := by
  obtain ⟨b, r, rfl, h1, h2⟩ := h
  exact ⟨b, r ++ c, rfl, h1, h2⟩
theorem ws_hd : ∀ (cs : List (List UInt8)), (∀ c ∈ cs, c ≠ []) → (∀ x ∈ ws cs none, Hd x) ∧ ∀ w, Hd w → ∀ x ∈ ws cs (some w), Hd x := by
  intro cs
  induction cs with
  | nil => exact fun _ => ⟨(fun x hx => by cases hx), (fun w hw x hx => by simp [ws] at hx; subst hx; exact hw)⟩
  | cons c cs ih =>
    intro h0
    obtain ⟨i1, i2⟩ := ih (fun d hd => h0 d (List.mem_cons_of_mem _ hd))
    have hc0 := h0 c (List.mem_cons_self ..)
    cases ha : alpha (runeOf c) with
    | true =>
      refine ⟨?_, fun w hw => ?_⟩
      · rw [ws_alpha _ _ _ ha]; exact i2 _ (by simpa using hd_piece hc0 ha)
      · rw [ws_alpha _ _ _ ha]; exact i2 _ (hd_append hw)
    | false =>
      refine ⟨?_, fun w hw => ?_⟩
      · rw [ws_skip _ _ ha]; exact i1
      · by_cases hk : runeOf c = 39 ∨ runeOf c = 45
        · rw [ws_mark _ _ _ ha hk]; exact i2 _ (hd_append hw)
        · rw [ws_end _ _ _ ha hk]
          intro x hx
          rcases List.mem_cons.1 hx with rfl | hx
          · exact hw
          · exact i1 x hx

theorem ws_len : ∀ (cs : List (List UInt8)) (st : Option (List UInt8)), (ws cs st).length ≤ cs.length + 1 := by
  intro cs
  induction cs with
  | nil => intro st; cases st <;> simp [ws]
  | cons c cs ih =>
    intro st
    cases ha : alpha (runeOf c) with
    | true => rw [ws_alpha _ _ _ ha]; have := ih (some (st.getD [] ++ c)); simp; omega
    | false =>
      cases st with
      | none => rw [ws_skip _ _ ha]; have := ih none; simp; omega
      | some x =>
        by_cases hk : runeOf c = 39 ∨ runeOf c = 45
        · rw [ws_mark _ _ _ ha hk]; have := ih (some (x ++ c)); simp; omega
        · rw [ws_end _ _ _ ha hk]; have := ih none; simp; omega
theorem ws_ot : ws (segs (⟨#[111, 110, 101, 44, 32, 116, 119, 111]⟩ : ByteArray).data.toList) none = [[111, 110, 101], [116, 119, 111]] := by decide +kernel
theorem ot_split (w : World) (hT : Tabs w) (hP : PTab w) (hV : LTab w) : Calls Tryd.prog 18 #[.string ⟨#[111, 110, 101, 44, 32, 116, 119, 111]⟩] w fun e w' => ∃ g cap, e = .returned (.slice (some ⟨g, 0, none⟩) 2 cap) ∧ w'.cell? ⟨g, 0, none⟩ = some (.string ⟨#[111, 110, 101]⟩) ∧ w'.cell? ⟨g, 1, none⟩ = some (.string ⟨#[116, 119, 111]⟩) ∧ Below w.heap.size w w' := by
  refine (implWordSplit_any ⟨#[111, 110, 101, 44, 32, 116, 119, 111]⟩ w (by decide) hT hP hV _ ws_ot).mono ?_
  rintro e w' ⟨ad, cap, rfl, hown, hb⟩
  rcases (textsAt_own hown).2 with ⟨_, hl⟩ | ⟨g, cap', hv, _, _, ht⟩
  · cases hl
  · injection hv with e1 e2 e3
    subst e1
    exact ⟨g, cap, rfl, ht 0 _ rfl, ht 1 _ rfl, hb⟩
theorem ot_count (w : World) (hT : Tabs w) (hP : PTab w) (hV : LTab w) : Calls Tryd.prog 20 #[.string ⟨#[111, 110, 101, 44, 32, 116, 119, 111]⟩] w fun e w' => e = .returned (.int .i64 2) ∧ Below w.heap.size w w' :=
  implWordCount_any ⟨#[111, 110, 101, 44, 32, 116, 119, 111]⟩ w (by decide) hT hP hV 2 (by rw [ws_ot]; rfl)
theorem vld_ok5 {s : ByteArray} (h : vld s = true) : s.size ≤ 4096 ∧ Lib.validD s.data.toList = true := by simpa [vld] using h

/-- where the next word stands -/
theorem at_word (s : ByteArray) (x : List UInt8) (W : List (List UInt8)) (f p : Nat) (w : World) (hs : s.size ≤ 4096) (hf : f ≤ p) (hp : p ≤ s.size) (he : Emb (x :: W) (s.data.toList.drop p)) :
    Calls Tryd.prog 17 #[.string s, .string ⟨x.toArray⟩, .int .i64 (f : Int)] w fun e w' => ∃ k : Nat, e = .returned (.int .i64 (k : Int)) ∧ (k + x.length ≤ s.size ∧ ∃ p', k + x.length ≤ p' ∧ p' ≤ s.size ∧ Emb W (s.data.toList.drop p')) ∧ w' = w := by
  obtain ⟨g, r, h, hr⟩ := he
  have hlen := congrArg List.length h
  rw [List.length_drop, ← Lib.size_eq, List.length_append, List.length_append] at hlen
  have hx : (⟨x.toArray⟩ : ByteArray).data.toList = x := rfl
  have hxs : (⟨x.toArray⟩ : ByteArray).size = x.length := by rw [Lib.size_eq]
  have h1 : s.data.toList.drop (p + g.length) = x ++ r := by rw [← List.drop_drop, h]; simp
  have h2 : (s.data.toList.drop (p + g.length)).take x.length = x := by rw [h1]; simp
  have h3 : s.data.toList.drop (p + g.length + x.length) = r := by rw [← List.drop_drop, h1]; simp
  refine (at_any s ⟨x.toArray⟩ f w (by omega) (by omega) (by omega)).mono ?_
  rintro e w' ⟨z, rfl, hz, rfl⟩
  unfold AtRes at hz
  rw [hx, ← Lib.size_eq] at hz
  rcases hz with ⟨rfl, hn⟩ | ⟨k, rfl, hk1, hk2, _, hk3⟩
  · exact absurd h2 (hn _ (by omega) (by omega))
  · have hkq : k ≤ p + g.length := by
      rcases Nat.lt_or_ge (p + g.length) k with hlt | hge
      · exact absurd h2 (hk3 _ (by omega) hlt)
      · exact hge
    exact ⟨k, rfl, ⟨hk2, p + g.length + x.length, by omega, by omega, by rw [h3]; exact hr⟩, rfl⟩

set_option maxHeartbeats 4000000 in
set_option maxRecDepth 100000 in
theorem fnWordCount_walk (s : ByteArray) (w : World) (_h1 : s.size ≤ 140737488351232) (hT : Tabs w) (hP : PTab w) (hV : LTab w) :
    Calls Tryd.prog 6 #[.string s] w fun e w' => e = .returned (.bool true) ∧ Below w.heap.size w w' := by
  by_cases hb : 2147483647 < s.size
  · have hbz : (2147483647 : Int) < (s.size : Int) := by omega
    go_enter Tryd.func6, Tryd.ntmps6
    go_wp2
    go_ret
    exact ⟨rfl, Below.refl _ _⟩
  have hbz : ¬ (2147483647 : Int) < (s.size : Int) := by omega
  cases hv : vld s with
  | false =>
    have HV : Hid (∀ w, Tabs w → Calls Tryd.prog 16 #[.string s] w fun e w' => e = .returned (.bool false) ∧ Below w.heap.size w w') := Lib.hid fun w hT => hv ▸ valid_any s w (by omega) hT
    clear hv
    go_enter Tryd.func6, Tryd.ntmps6
    go_wp2_with (go_at_call 18; (with_reducible refine (ot_split _ hT hP hV).mono ?_); rintro e w1 ⟨g0, cap0, rfl, hz0, hz1, hb1⟩; dsimp only)
    have hT1 := hT.below hb1
    have hP1 := hP.below hb1
    have hV1 := hV.below hb1
    go_wp2_with (go_at_call 20; (with_reducible refine (ot_count _ hT1 hP1 hV1).mono ?_); rintro e w2 ⟨rfl, hb2⟩; dsimp only)
    have hT2 := hT1.below hb2
    have hP2 := hP1.below hb2
    have hV2 := hV1.below hb2
    go_wp2_with (go_at_call 16; (with_reducible refine (HV.out _ hT2).mono ?_); rintro e w3 ⟨rfl, hb3⟩; dsimp only)
    have hT3 := hT2.below hb3
    have hP3 := hP2.below hb3
    have hV3 := hV2.below hb3
    go_wp2
    go_ret
    exact ⟨rfl, bthen (bthen hb1 hb2) hb3⟩
  | true =>
    have HV : Hid (∀ w, Tabs w → Calls Tryd.prog 16 #[.string s] w fun e w' => e = .returned (.bool true) ∧ Below w.heap.size w w') := Lib.hid fun w hT => hv ▸ valid_any s w (by omega) hT
    have hle := (vld_ok5 hv).1
    have hemb := (ws_emb (segs s.data.toList)).1
    have hhd := (ws_hd (segs s.data.toList) (segs_ne _)).1
    rw [segs_flatten] at hemb
    have hcl := ws_wc (segs s.data.toList) none
    obtain ⟨W, hW⟩ : ∃ W, ws (segs s.data.toList) none = W := ⟨_, rfl⟩
    rw [hW] at hemb hhd
    obtain ⟨N, hN⟩ : ∃ N, W.length = N := ⟨_, rfl⟩
    have cS := fun w hT hP hV => implWordSplit_any s w (by omega) hT hP hV W hW
    have cC := fun w hT hP hV => implWordCount_any s w (by omega) hT hP hV N (by rw [hW, hN])
    rw [hN] at cS
    have hNb : N ≤ 4097 := by
      rw [← hN, ← hW]
      have h1 := ws_len (segs s.data.toList) none
      have h2 := segs_length_le s.data.toList
      rw [← Lib.size_eq] at h2
      omega
    have HS := Lib.hid cS
    have HC := Lib.hid cC
    have HE := Lib.hid hemb
    have HH := Lib.hid hhd
    have HN := Lib.hid hN
    clear cS cC hemb hhd hcl hW hN hv
    go_enter Tryd.func6, Tryd.ntmps6
    go_wp2_with (go_at_call 18; (with_reducible refine (ot_split _ hT hP hV).mono ?_); rintro e w1 ⟨g0, cap0, rfl, hz0, hz1, hb1⟩; dsimp only)
    have hT1 := hT.below hb1
    have hP1 := hP.below hb1
    have hV1 := hV.below hb1
    go_wp2_with (go_at_call 20; (with_reducible refine (ot_count _ hT1 hP1 hV1).mono ?_); rintro e w2 ⟨rfl, hb2⟩; dsimp only)
    have hT2 := hT1.below hb2
    have hP2 := hP1.below hb2
    have hV2 := hV1.below hb2
    go_wp2_with (go_at_call 16; (with_reducible refine (HV.out _ hT2).mono ?_); rintro e w3 ⟨rfl, hb3⟩; dsimp only)
    have hT3 := hT2.below hb3
    have hP3 := hP2.below hb3
    have hV3 := hV2.below hb3
    go_wp2_with (go_at_call 18; (with_reducible refine (HS.out _ hT3 hP3 hV3).mono ?_); rintro e w4 ⟨ad, cap, rfl, hown, hb4⟩; dsimp only)
    have hT4 := hT3.below hb4
    have hP4 := hP3.below hb4
    have hV4 := hV3.below hb4
    have hw4 := bthen (bthen (bthen hb1 hb2) hb3) hb4
    rcases (textsAt_own hown).2 with ⟨hv, hl⟩ | ⟨g, cap', hv, _, hg, ht⟩
    · injection hv with e1 e2 e3
      subst e1 e3
      have hN0 : N = 0 := by rw [← HN.out, hl]; rfl
      clear hown hl
      go_wp2
      go_loopw [5, 7, 8, 39] (fun fv _ _ iv wr => ∃ (f i p : Nat), fv = .int .i64 f ∧ iv = .int .i64 i ∧ i ≤ N ∧ f ≤ p ∧ p ≤ s.size ∧ Emb (W.drop i) (s.data.toList.drop p) ∧ Below w4.heap.size w4 wr) (fun _ _ _ iv _ => match iv with | .int _ i => N - i.toNat | _ => 0)
      case atStart => exact ⟨0, 0, 0, rfl, rfl, Nat.zero_le _, Nat.le_refl _, Nat.zero_le _, HE.out, Below.refl _ _⟩
      case round =>
        obtain ⟨f, i, p, rfl, rfl, hiN, hfp, hps, hem, hbw⟩ := hrel
        have HM := Lib.hid hem
        clear hem
        by_cases hlt : i < N
        · exact absurd hlt (by omega)
        · have hz : ¬ (i : Int) < (N : Int) := by omega
          have hTe := hT4.below hbw
          have hPe := hP4.below hbw
          have hVe := hV4.below hbw
          go_wp2_with (go_at_call 20; (with_reducible refine (HC.out _ hTe hPe hVe).mono ?_); rintro e w6 ⟨rfl, hb6⟩; dsimp only)
          go_wp2
          go_ret
          exact ⟨rfl, bthen hw4 (hbw.trans (hb6.mono hbw.size))⟩
    · injection hv with e1 e2 e3
      subst e1
      clear hown
      go_wp2
      go_loopw [5, 7, 8, 39] (fun fv _ _ iv wr => ∃ (f i p : Nat), fv = .int .i64 f ∧ iv = .int .i64 i ∧ i ≤ N ∧ f ≤ p ∧ p ≤ s.size ∧ Emb (W.drop i) (s.data.toList.drop p) ∧ Below w4.heap.size w4 wr) (fun _ _ _ iv _ => match iv with | .int _ i => N - i.toNat | _ => 0)
      case atStart => exact ⟨0, 0, 0, rfl, rfl, Nat.zero_le _, Nat.le_refl _, Nat.zero_le _, HE.out, Below.refl _ _⟩
      case round =>
        obtain ⟨f, i, p, rfl, rfl, hiN, hfp, hps, hem, hbw⟩ := hrel
        have HM := Lib.hid hem
        clear hem
        by_cases hlt : i < N
        · have hz : (i : Int) < (N : Int) := by omega
          have hiW : i < W.length := by rw [HN.out]; exact hlt
          obtain ⟨x, hx⟩ : ∃ x, W[i]? = some x := ⟨W[i], List.getElem?_eq_getElem hiW⟩
          have hdr : W.drop i = x :: W.drop (i + 1) := by
            rw [List.drop_eq_getElem_cons hiW]
            rw [List.getElem?_eq_getElem hiW] at hx
            rw [Option.some.inj hx]
          have k1 : wr.cell? ⟨g, i, none⟩ = some (.string ⟨x.toArray⟩) := ht.below hbw hg i x hx
          obtain ⟨b, r, hxb, h39, h45⟩ := HH.out x (List.mem_of_getElem? hx)
          have hem := HM.out
          rw [hdr] at hem
          have hAt := at_word s x (W.drop (i + 1)) f p wr (by omega) hfp hps hem
          have hX0 : 0 < (⟨x.toArray⟩ : ByteArray).size := by rw [Lib.size_eq, hxb]; simp
          have hX1 : ((⟨x.toArray⟩ : ByteArray)[0]'hX0) = b := by subst hxb; rfl
          have hXe : (⟨x.toArray⟩ : ByteArray).toList.isEmpty = false := by rw [Lib.toList_data, hxb]; rfl
          have hXs : (⟨x.toArray⟩ : ByteArray).size = x.length := by rw [Lib.size_eq]
          rw [← hXs] at hAt
          have q39 : ((((⟨x.toArray⟩ : ByteArray)[0]'hX0).toNat : Int) == 39) = false := by rw [hX1, beq_eq_false_iff_ne]; omega
          have q45 : ((((⟨x.toArray⟩ : ByteArray)[0]'hX0).toNat : Int) == 45) = false := by rw [hX1, beq_eq_false_iff_ne]; omega
          clear hX1 hXs hxb hx hdr hem
          generalize (⟨x.toArray⟩ : ByteArray) = X at k1 hAt hX0 hXe q39 q45
          have HAt := Lib.hid hAt
          have hX0z : (0 : Int) < (X.size : Int) := by omega
          clear hAt
          go_wp2_with (go_at_call 17; (with_reducible refine HAt.out.mono ?_); rintro e w5 ⟨k, rfl, ⟨hk1, hk2⟩, rfl⟩; dsimp only)
          have hk0 : ¬ (k : Int) < 0 := by omega
          have HK := Lib.hid hk2
          clear hk2
          go_wp2
          go_roundw
          case rel =>
            obtain ⟨p', h1, h2, h3⟩ := HK.out
            exact ⟨k + X.size, i + 1, p', by go_num, by go_num, by omega, h1, h2, h3, hbw⟩
          case measure => show N - ((i : Int) + 1).toNat < N - (i : Int).toNat; omega
        · have hz : ¬ (i : Int) < (N : Int) := by omega
          have hTe := hT4.below hbw
          have hPe := hP4.below hbw
          have hVe := hV4.below hbw
          go_wp2_with (go_at_call 20; (with_reducible refine (HC.out _ hTe hPe hVe).mono ?_); rintro e w6 ⟨rfl, hb6⟩; dsimp only)
          go_wp2
          go_ret
          exact ⟨rfl, bthen hw4 (hbw.trans (hb6.mono hbw.size))⟩
end Go.Proofs.YtdomnccokhhieaaDoor
