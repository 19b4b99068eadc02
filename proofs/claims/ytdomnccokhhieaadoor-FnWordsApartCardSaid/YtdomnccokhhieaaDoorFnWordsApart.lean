/- The walk of the law FnWordsApart. -/
import Derived.Test.YtdomnccokhhieaaDoorEqTexts
import Derived.Test.YtdomnccokhhieaaDoorValid
import Derived.Laws.AppendOwnNone
namespace Go.Proofs.YtdomnccokhhieaaDoor
open Go.RowKit Plain

theorem ab_any (w : World) (hT : Tabs w) (hP : PTab w) (hV : LTab w) : Calls Tryd.prog 18 #[.string ⟨#[97, 32, 98]⟩] w fun e w' => ∃ ad cap, e = .returned (.slice ad 2 cap) ∧ Below w.heap.size w w' :=
  (implWordSplit_any ⟨#[97, 32, 98]⟩ w (by decide) hT hP hV [[97], [98]] ws_ab).mono fun e w' ⟨ad, cap, he, _, hb⟩ => ⟨ad, cap, he, hb⟩
theorem vld_ok4 {s : ByteArray} (h : vld s = true) : s.size ≤ 4096 ∧ Lib.validD s.data.toList = true := by simpa [vld] using h
theorem strs_append (a b : List (List UInt8)) : strs (a ++ b) = strs a ++ strs b := by simp [strs]
theorem strs_length (a : List (List UInt8)) : (strs a).length = a.length := by simp [strs]
theorem strs_one (a : List (List UInt8)) : ∀ u ∈ strs a, u.oneCell' = true := by
  intro u hu
  obtain ⟨x, _, rfl⟩ := List.mem_map.1 hu
  rfl
theorem textsAt_cells {w : World} {g : Nat} {l : List (List UInt8)} (h : TextsAt w g l) : ∀ j u, (strs l)[j]? = some u → w.cell? ((⟨g, 0, none⟩ : Addr).add j) = some u := by
  intro j u hu
  have hadd : (⟨g, 0, none⟩ : Addr).add j = ⟨g, 0 + j, none⟩ := by unfold Addr.add; split <;> simp_all
  rw [hadd, Nat.zero_add]
  simp only [strs, List.getElem?_map, Option.map_eq_some_iff] at hu
  obtain ⟨x, hx, rfl⟩ := hu
  exact h j x hx
theorem ownsEmpty {w : World} {h : Nat} (hh : w.heap[h]? = some (.cells #[] 9 (0, 0))) : w.ownsRow h 9 1 (.slice (some ⟨h, 0, none⟩) 0 0) 0 [] :=
  ⟨rfl, .inr ⟨h, 0, #[], rfl, Nat.le_refl _, hh, Nat.le_refl _, Nat.zero_le _, rfl, rfl⟩⟩

set_option maxHeartbeats 4000000 in
set_option maxRecDepth 100000 in
theorem fnWordsApart_early (s p : ByteArray) (w : World) (hT : Tabs w) (hP : PTab w) (hV : LTab w) (h : 2147483647 < s.size ∨ 2147483647 < p.size ∨ vld s = false ∨ vld p = false) :
    Calls Tryd.prog 5 #[.string s, .string p] w fun e w' => e = .returned (.bool true) ∧ Below w.heap.size w w' := by
  by_cases hb : 2147483647 < s.size
  · have hbz : (2147483647 : Int) < (s.size : Int) := by omega
    go_enter Tryd.func5, Tryd.ntmps5
    go_wp2
    go_ret
    exact ⟨rfl, Below.refl _ _⟩
  by_cases hb' : 2147483647 < p.size
  · have hbz : ¬ (2147483647 : Int) < (s.size : Int) := by omega
    have hby : (2147483647 : Int) < (p.size : Int) := by omega
    go_enter Tryd.func5, Tryd.ntmps5
    go_wp2
    go_ret
    exact ⟨rfl, Below.refl _ _⟩
  have hbz : ¬ (2147483647 : Int) < (s.size : Int) := by omega
  have hby : ¬ (2147483647 : Int) < (p.size : Int) := by omega
  cases hv : vld s with
  | false =>
    have HV : Hid (∀ w, Tabs w → Calls Tryd.prog 16 #[.string s] w fun e w' => e = .returned (.bool false) ∧ Below w.heap.size w w') := Lib.hid fun w hT => hv ▸ valid_any s w (by omega) hT
    clear hv h
    go_enter Tryd.func5, Tryd.ntmps5
    go_wp2_with (go_at_call 18; (with_reducible refine (ab_any _ hT hP hV).mono ?_); rintro e w1 ⟨ad0, cap0, rfl, hb1⟩; dsimp only)
    have hT1 := hT.below hb1
    have hP1 := hP.below hb1
    have hV1 := hV.below hb1
    go_wp2_with (go_at_call 16; (with_reducible refine (HV.out _ hT1).mono ?_); rintro e w2 ⟨rfl, hb2⟩; dsimp only)
    have hT2 := hT1.below hb2
    have hP2 := hP1.below hb2
    have hV2 := hV1.below hb2
    go_wp2
    go_ret
    exact ⟨rfl, bthen hb1 hb2⟩
  | true =>
    have HV : Hid (∀ w, Tabs w → Calls Tryd.prog 16 #[.string s] w fun e w' => e = .returned (.bool true) ∧ Below w.heap.size w w') := Lib.hid fun w hT => hv ▸ valid_any s w (by omega) hT
    have hv2 : vld p = false := by
      rcases h with h | h | h | h
      · exact absurd h hb
      · exact absurd h hb'
      · rw [hv] at h; cases h
      · exact h
    have HU : Hid (∀ w, Tabs w → Calls Tryd.prog 16 #[.string p] w fun e w' => e = .returned (.bool false) ∧ Below w.heap.size w w') := Lib.hid fun w hT => hv2 ▸ valid_any p w (by omega) hT
    clear hv hv2 h
    go_enter Tryd.func5, Tryd.ntmps5
    go_wp2_with (go_at_call 18; (with_reducible refine (ab_any _ hT hP hV).mono ?_); rintro e w1 ⟨ad0, cap0, rfl, hb1⟩; dsimp only)
    have hT1 := hT.below hb1
    have hP1 := hP.below hb1
    have hV1 := hV.below hb1
    go_wp2_with (go_at_call 16; (with_reducible refine (HV.out _ hT1).mono ?_); rintro e w2 ⟨rfl, hb2⟩; dsimp only)
    have hT2 := hT1.below hb2
    have hP2 := hP1.below hb2
    have hV2 := hV1.below hb2
    go_wp2_with (go_at_call 16; (with_reducible refine (HU.out _ hT2).mono ?_); rintro e w3 ⟨rfl, hb3⟩; dsimp only)
    have hT3 := hT2.below hb3
    have hP3 := hP2.below hb3
    have hV3 := hV2.below hb3
    go_wp2
    go_ret
    exact ⟨rfl, bthen (bthen hb1 hb2) hb3⟩

theorem append_texts (w : World) {ops : Array Oper} {rest : List Oper} {o : Oper} {a : Act} {Q : Exit → Act → World → Prop} (hgd : o.guard = none) (sl x : Operand)
    (ho : o.op = .call { callee := .builtin .append, args := #[sl, x], argTypes := #[31, 31] })
    (B : Nat) (v : Value) (n : Nat) (xs : List Value) (hs : a.eval sl = v) (hown : w.ownsRow B 9 1 v n xs) (B2 : Nat) (ad : Option Addr) (m cap : Nat) (L : List (List UInt8)) (hx : a.eval x = .slice ad m cap) (hsrc : w.ownsRow B2 9 1 (.slice ad m cap) m (strs L))
    (hnm : n + m ≤ 2147483647) (hB : B ≤ w.heap.size)
    (h : ∀ v' w', w'.ownsRow B 9 1 v' (n + m) (xs ++ strs L) → Below B w w' → wpList Tryd.prog ops Q rest (a.put o.dst v') w') : wpList Tryd.prog ops Q (o :: rest) a w := by
  obtain ⟨i0, hi, hz0, hz1, hz2⟩ := info_parts infoStr
  obtain ⟨hm, hc⟩ := textsAt_own hsrc
  rcases hc with ⟨hv, hl⟩ | ⟨g, cap', hv, _, hg, ht⟩
  · injection hv with e1 e2 e3
    subst e1 e2 e3
    subst hl
    exact wpList_append_own_none hgd sl x 31 ho B 9 i0 1 Tryd.underlying31 hi v n xs hs hown hx (h v w (by simpa [strs] using hown) (Below.refl _ _))
  · injection hv with e1 e2 e3
    subst e1 e3
    exact wpList_append_own _ hgd sl x 31 ho B 9 i0 (.string ⟨#[]⟩) 1 16 Tryd.underlying31 hi hz0 hz1 hz2 rfl (by decide) v n xs hs hown ⟨g, 0, none⟩ m cap (strs L) hx (by rw [strs_length]; omega) (textsAt_cells ht) (strs_one _) (by unfold maxLen; omega) (by omega) hB (fun v' w' h1 h2 _ => h v' w' h1 ((Below.refl B w).grown h2 hB (fun k hk => (hown.lt k hk).1)))
theorem eq_final (ad1 : Option Addr) (cap1 n : Nat) (l : List (List UInt8)) (w4 wz : World) (vz : Value) {B1 B2 : Nat} (hn : l.length = n) (h1 : w4.ownsRow B1 9 1 (.slice ad1 n cap1) n (strs l)) (hz : wz.ownsRow B2 9 1 vz n (strs l)) (hb : Below w4.heap.size w4 wz) (hnb : n ≤ 2147483647) :
    Calls Tryd.prog 19 #[.slice ad1 n cap1, vz] wz fun e w' => e = .returned (.bool true) ∧ Below wz.heap.size wz w' := by
  have c1 := (textsAt_own h1).2
  have c2 := (textsAt_own hz).2
  rcases c2 with ⟨rfl, hl⟩ | ⟨g2, k2, rfl, _, hg2, t2⟩
  · have : n = 0 := by rw [← hn, hl]; rfl
    subst this
    exact eqTexts_zero ad1 none cap1 0 wz
  · rcases c1 with ⟨hv, hl⟩ | ⟨g1, k1, hv, _, hg1, t1⟩
    · have : n = 0 := by rw [← hn, hl]; rfl
      subst this
      exact eqTexts_zero ad1 _ cap1 k2 wz
    · injection hv with e1 e2 e3
      subst e1
      exact eqTexts_any g1 g2 cap1 k2 n l wz hn hnb (t1.below hb hg1) t2 (Nat.lt_of_lt_of_le hg1 hb.size) hg2

theorem ws_length : ∀ (cs : List (List UInt8)) (st : Option (List UInt8)), (ws cs st).length ≤ cs.length + 1 := by
  intro cs
  induction cs with
  | nil => intro st; cases st <;> simp [ws]
  | cons c cs ih =>
    intro st
    cases ha : alpha (runeOf c) with
    | true => rw [ws_alpha _ _ _ ha]; have := ih (some (st.getD [] ++ c)); simp; omega
    | false =>
      cases st with
      | none => rw [ws_skip _ _ ha]; have := ih none; simp; omega
      | some x =>
        by_cases hk : runeOf c = 39 ∨ runeOf c = 45
        · rw [ws_mark _ _ _ ha hk]; have := ih (some (x ++ c)); simp; omega
        · rw [ws_end _ _ _ ha hk]; have := ih none; simp; omega
set_option maxHeartbeats 8000000 in
set_option maxRecDepth 100000 in
theorem fnWordsApart_good (s p : ByteArray) (w : World) (hT : Tabs w) (hP : PTab w) (hV : LTab w) (hv : vld s = true) (hv2 : vld p = true) :
    Calls Tryd.prog 5 #[.string s, .string p] w fun e w' => e = .returned (.bool true) ∧ Below w.heap.size w w' := by
  obtain ⟨i0, hi, hz0, hz1, hz2⟩ := info_parts infoStr
  have hle := (vld_ok4 hv).1
  have hle2 := (vld_ok4 hv2).1
  have hbz : ¬ (2147483647 : Int) < (s.size : Int) := by omega
  have hby : ¬ (2147483647 : Int) < (p.size : Int) := by omega
  have hA : s.size + 1 ≤ 9223372036854775807 := by omega
  have hB : s.size + 1 + p.size ≤ 9223372036854775807 := by omega
  have HV : Hid (∀ w, Tabs w → Calls Tryd.prog 16 #[.string s] w fun e w' => e = .returned (.bool true) ∧ Below w.heap.size w w') := Lib.hid fun w hT => hv ▸ valid_any s w (by omega) hT
  have HU : Hid (∀ w, Tabs w → Calls Tryd.prog 16 #[.string p] w fun e w' => e = .returned (.bool true) ∧ Below w.heap.size w w') := Lib.hid fun w hT => hv2 ▸ valid_any p w (by omega) hT
  obtain ⟨la, hla⟩ : ∃ la, ws (segs s.data.toList) none = la := ⟨_, rfl⟩
  obtain ⟨lb, hlb⟩ : ∃ lb, ws (segs p.data.toList) none = lb := ⟨_, rfl⟩
  have hw := words_apart s.data.toList p.data.toList (vld_ok4 hv).2
  rw [hla, hlb] at hw
  have cA := fun (w : World) (hT : Tabs w) (hP : PTab w) (hV : LTab w) => implWordSplit_any s w (by omega) hT hP hV la hla
  have cB := fun (w : World) (hT : Tabs w) (hP : PTab w) (hV : LTab w) => implWordSplit_any p w (by omega) hT hP hV lb hlb
  have cX := fun (w : World) (hT : Tabs w) (hP : PTab w) (hV : LTab w) => implWordSplit_any ((s ++ ⟨#[32]⟩) ++ p) w (by rw [ByteArray.size_append, ByteArray.size_append]; show s.size + 1 + p.size ≤ _; omega) hT hP hV (la ++ lb) (by rw [← hw]; simp)
  have hca : la.length ≤ 4097 := by rw [← hla]; have := ws_length (segs s.data.toList) none; have h2 := segs_length_le s.data.toList; rw [← Lib.size_eq] at h2; omega
  have hcb : lb.length ≤ 4097 := by rw [← hlb]; have := ws_length (segs p.data.toList) none; have h2 := segs_length_le p.data.toList; rw [← Lib.size_eq] at h2; omega
  obtain ⟨na, hna⟩ : ∃ na, la.length = na := ⟨_, rfl⟩
  obtain ⟨nb, hnb⟩ : ∃ nb, lb.length = nb := ⟨_, rfl⟩
  have hlen : (la ++ lb).length = na + nb := by rw [List.length_append, hna, hnb]
  rw [hna] at cA hca
  rw [hnb] at cB hcb
  rw [hlen] at cX
  have HA := Lib.hid cA
  have HB := Lib.hid cB
  have HX := Lib.hid cX
  have HNA := Lib.hid hna
  have HNB := Lib.hid hnb
  have HLL := Lib.hid hlen
  clear cA cB cX hna hnb hlen hw hla hlb hv hv2 hle hle2
  go_enter Tryd.func5, Tryd.ntmps5
  go_wp2_with (go_at_call 18; (with_reducible refine (ab_any _ hT hP hV).mono ?_); rintro e w1 ⟨ad0, cap0, rfl, hb1⟩; dsimp only)
  have hT1 := hT.below hb1
  have hP1 := hP.below hb1
  have hV1 := hV.below hb1
  go_wp2_with (go_at_call 16; (with_reducible refine (HV.out _ hT1).mono ?_); rintro e w2 ⟨rfl, hb2⟩; dsimp only)
  have hT2 := hT1.below hb2
  have hP2 := hP1.below hb2
  have hV2 := hV1.below hb2
  go_wp2_with (go_at_call 16; (with_reducible refine (HU.out _ hT2).mono ?_); rintro e w3 ⟨rfl, hb3⟩; dsimp only)
  have hT3 := hT2.below hb3
  have hP3 := hP2.below hb3
  have hV3 := hV2.below hb3
  go_wp2_with (go_at_call 18; (with_reducible refine (HX.out _ hT3 hP3 hV3).mono ?_); rintro e w4 ⟨ad1, cap1, rfl, hown1, hb4⟩; dsimp only)
  have hT4 := hT3.below hb4
  have hP4 := hP3.below hb4
  have hV4 := hV3.below hb4
  have hw4 := bthen (bthen (bthen hb1 hb2) hb3) hb4
  have hal : Below w4.heap.size w4 (w4.alloc (.cells #[] 9)) := (Below.refl _ w4).alloc (Nat.le_refl _) _
  have hT5 := hT4.below hal
  have hP5 := hP4.below hal
  have hV5 := hV4.below hal
  go_wp2_with (go_at_call 18; (with_reducible refine (HA.out _ hT5 hP5 hV5).mono ?_))
  rintro e w5 ⟨ad2, cap2, rfl, hown2, hb5⟩
  dsimp only
  have hE : w5.heap[w4.heap.size]? = some (.cells #[] 9 (0, 0)) := (hb5.block _ (by simp)).trans (heap_alloc_new w4 _)
  have hw45 : Below w4.heap.size w4 w5 := hal.trans (hb5.mono (by simp))
  have hT6 := hT5.below hb5
  have hP6 := hP5.below hb5
  have hV6 := hV5.below hb5
  have hownE := ownsEmpty hE
  have hs5 := hw45.size
  go_wp2_with (at_builtin; refine append_texts _ rfl (.tmp 29) (.tmp 31) rfl w4.heap.size _ 0 [] rfl hownE _ ad2 na cap2 la rfl hown2 (by omega) hs5 ?_)
  intro v3 w6 hown3 hb6
  have hw46 : Below w4.heap.size w4 w6 := hw45.trans hb6
  have hT7 := hT4.below hw46
  have hP7 := hP4.below hw46
  have hV7 := hV4.below hw46
  go_wp2_with (go_at_call 18; (with_reducible refine (HB.out _ hT7 hP7 hV7).mono ?_))
  rintro e w7 ⟨ad4, cap4, rfl, hown4, hb7⟩
  dsimp only
  have hw47 : Below w4.heap.size w4 w7 := hw46.trans (hb7.mono hw46.size)
  have hown5 := own_below hown3 hb7
  have hs7 := hw47.size
  go_wp2_with (at_builtin; refine append_texts _ rfl (.tmp 32) (.tmp 34) rfl w4.heap.size _ na _ rfl hown5 _ ad4 nb cap4 lb rfl hown4 (by omega) hs7 ?_)
  intro v8 w8 hown8 hb8
  have hw48 : Below w4.heap.size w4 w8 := hw47.trans hb8
  have ho8 : w8.ownsRow w4.heap.size 9 1 v8 (na + nb) (strs (la ++ lb)) := by
    rw [strs_append]
    simpa using hown8
  have HE := Lib.hid (eq_final ad1 cap1 (na + nb) (la ++ lb) w4 w8 v8 HLL.out hown1 ho8 hw48 (by omega))
  go_wp2_with (go_at_call 19; (with_reducible refine HE.out.mono ?_); rintro e w9 ⟨rfl, hb9⟩; dsimp only)
  go_wp2
  go_ret
  exact ⟨rfl, bthen hw4 (hw48.trans (hb9.mono hw48.size))⟩
theorem fnWordsApart_walk (s p : ByteArray) (w : World) (_h1 : s.size ≤ 140737488351232) (_h2 : p.size ≤ 140737488351232) (hT : Tabs w) (hP : PTab w) (hV : LTab w) :
    Calls Tryd.prog 5 #[.string s, .string p] w fun e w' => e = .returned (.bool true) ∧ Below w.heap.size w w' := by
  by_cases h : 2147483647 < s.size ∨ 2147483647 < p.size ∨ vld s = false ∨ vld p = false
  · exact fnWordsApart_early s p w hT hP hV h
  · have hv : vld s = true := by
      cases hv : vld s with
      | true => rfl
      | false => exact absurd (.inr (.inr (.inl hv))) h
    have hv2 : vld p = true := by
      cases hv : vld p with
      | true => rfl
      | false => exact absurd (.inr (.inr (.inr hv))) h
    exact fnWordsApart_good s p w hT hP hV hv hv2
end Go.Proofs.YtdomnccokhhieaaDoor
