/- The walk of the law FnRightJustify. -/
import Derived.Test.YtobcoplfniojkaaDoorFnCenterRoads
import Derived.Test.YtobcoplfniojkaaDoorPadL
namespace Go.Proofs.YtobcoplfniojkaaDoor
open Go.RowKit Plain

theorem right_hello : (⟨(rightB (⟨#[104, 101, 108, 108, 111]⟩ : ByteArray).data.toList (⟨#[49, 50, 51]⟩ : ByteArray).data.toList 10).toArray⟩ : ByteArray) = ⟨#[49, 50, 51, 49, 50, 104, 101, 108, 108, 111]⟩ := by decide +kernel
theorem rhello_any (w : World) (hT : Tabs w) : Calls Tryd.prog 21 #[.string ⟨#[104, 101, 108, 108, 111]⟩, .int .i64 10, .string ⟨#[49, 50, 51]⟩] w fun e w' => e = .returned (.string ⟨#[49, 50, 51, 49, 50, 104, 101, 108, 108, 111]⟩) ∧ Below w.heap.size w w' := by
  have := implRightJustify_any ⟨#[104, 101, 108, 108, 111]⟩ 10 ⟨#[49, 50, 51]⟩ w (by decide) (by decide) (by decide) (by decide) hT
  rwa [right_hello] at this

theorem cyc_pieces (ps : List (List UInt8)) (h : 0 < ps.length) (k : Nat) : cyc (ps.map runeOf) k = (padP ps k).map runeOf := by
  apply List.ext_getElem?
  intro i
  by_cases hi : i < k
  · have hm : i % ps.length < ps.length := Nat.mod_lt _ h
    rw [List.getElem?_map, padP_get ps h k i hi]
    simp [cyc, hi, List.getD, List.getElem?_map, List.getElem?_eq_getElem hm]
  · rw [List.getElem?_eq_none (by rw [cyc_length]; omega), List.getElem?_eq_none (by rw [List.length_map, padP_length k h]; omega)]
theorem text_pad (p : List UInt8) (h : Lib.validD p = true) (h0 : p ≠ []) (k : Nat) : textOf (cyc (rnsOf p) k) = ⟨(padOf (segs p) k).toArray⟩ := by
  have hg := padP_good k (segs_good p h)
  show textOf (cyc ((segs p).map runeOf) k) = _
  rw [cyc_pieces _ (segs_len_pos h0), padOf_flat]
  have := textOf_good _ hg
  rw [← this]

set_option maxHeartbeats 4000000 in
set_option maxRecDepth 100000 in
theorem fnRightJustify_early (s : ByteArray) (n : Int) (p : ByteArray) (w : World) (hT : Tabs w) (h : 2147483647 < s.size ∨ 2147483647 < p.size ∨ vld s = false ∨ vld p = false ∨ 2000 < n) :
    Calls Tryd.prog 8 #[.string s, .int .i64 n, .string p] w fun e w' => e = .returned (.bool true) ∧ Below w.heap.size w w' := by
  by_cases hb : 2147483647 < s.size
  · have hbz : (2147483647 : Int) < (s.size : Int) := by omega
    go_enter Tryd.func8, Tryd.ntmps8
    go_wp2
    go_ret
    exact ⟨rfl, Below.refl _ _⟩
  by_cases hb' : 2147483647 < p.size
  · have hbz : ¬ (2147483647 : Int) < (s.size : Int) := by omega
    have hby : (2147483647 : Int) < (p.size : Int) := by omega
    go_enter Tryd.func8, Tryd.ntmps8
    go_wp2
    go_ret
    exact ⟨rfl, Below.refl _ _⟩
  have hbz : ¬ (2147483647 : Int) < (s.size : Int) := by omega
  have hby : ¬ (2147483647 : Int) < (p.size : Int) := by omega
  cases hv : vld s with
  | false =>
    have HV : Hid (∀ w, Tabs w → Calls Tryd.prog 12 #[.string s] w fun e w' => e = .returned (.bool false) ∧ Below w.heap.size w w') := Lib.hid fun w hT => hv ▸ valid_any s w (by omega) hT
    clear hv h
    go_enter Tryd.func8, Tryd.ntmps8
    go_wp2_with (go_at_call 12; (with_reducible refine (HV.out _ hT).mono ?_); rintro e w1 ⟨rfl, hb1⟩; dsimp only)
    have hT1 := hT.below hb1
    go_wp2_with (go_at_call 21; (with_reducible refine (rhello_any _ hT1).mono ?_); rintro e w2 ⟨rfl, hb2⟩; dsimp only)
    have hT2 := hT1.below hb2
    go_wp2
    go_ret
    exact ⟨rfl, bthen hb1 hb2⟩
  | true =>
    have HV : Hid (∀ w, Tabs w → Calls Tryd.prog 12 #[.string s] w fun e w' => e = .returned (.bool true) ∧ Below w.heap.size w w') := Lib.hid fun w hT => hv ▸ valid_any s w (by omega) hT
    cases hv2 : vld p with
    | false =>
      have HU : Hid (∀ w, Tabs w → Calls Tryd.prog 12 #[.string p] w fun e w' => e = .returned (.bool false) ∧ Below w.heap.size w w') := Lib.hid fun w hT => hv2 ▸ valid_any p w (by omega) hT
      clear hv hv2 h
      go_enter Tryd.func8, Tryd.ntmps8
      go_wp2_with (go_at_call 12; (with_reducible refine (HV.out _ hT).mono ?_); rintro e w1 ⟨rfl, hb1⟩; dsimp only)
      have hT1 := hT.below hb1
      go_wp2_with (go_at_call 12; (with_reducible refine (HU.out _ hT1).mono ?_); rintro e w2 ⟨rfl, hb2⟩; dsimp only)
      have hT2 := hT1.below hb2
      go_wp2_with (go_at_call 21; (with_reducible refine (rhello_any _ hT2).mono ?_); rintro e w3 ⟨rfl, hb3⟩; dsimp only)
      have hT3 := hT2.below hb3
      go_wp2
      go_ret
      exact ⟨rfl, bthen (bthen hb1 hb2) hb3⟩
    | true =>
      have HU : Hid (∀ w, Tabs w → Calls Tryd.prog 12 #[.string p] w fun e w' => e = .returned (.bool true) ∧ Below w.heap.size w w') := Lib.hid fun w hT => hv2 ▸ valid_any p w (by omega) hT
      have hn : 2000 < n := by
        rcases h with h | h | h | h | h
        · exact absurd h hb
        · exact absurd h hb'
        · rw [hv] at h; cases h
        · rw [hv2] at h; cases h
        · exact h
      have cW := fun w => wide_any n w
      rw [show decide (2000 < n) = true by simp [hn]] at cW
      have HW := Lib.hid cW
      clear cW hv hv2 h
      go_enter Tryd.func8, Tryd.ntmps8
      go_wp2_with (go_at_call 12; (with_reducible refine (HV.out _ hT).mono ?_); rintro e w1 ⟨rfl, hb1⟩; dsimp only)
      have hT1 := hT.below hb1
      go_wp2_with (go_at_call 12; (with_reducible refine (HU.out _ hT1).mono ?_); rintro e w2 ⟨rfl, hb2⟩; dsimp only)
      have hT2 := hT1.below hb2
      go_wp2_with (go_at_call 20; (with_reducible refine (HW.out _).mono ?_); rintro e w9 ⟨rfl, rfl⟩; dsimp only)
      go_wp2_with (go_at_call 21; (with_reducible refine (rhello_any _ hT2).mono ?_); rintro e w3 ⟨rfl, hb3⟩; dsimp only)
      have hT3 := hT2.below hb3
      go_wp2
      go_ret
      exact ⟨rfl, bthen (bthen hb1 hb2) hb3⟩

set_option maxHeartbeats 4000000 in
set_option maxRecDepth 100000 in
theorem fnRightJustify_same (s : ByteArray) (n : Int) (p : ByteArray) (w : World) (hT : Tabs w) (hn : n ≤ 2000) (hn0 : -9223372036854775808 ≤ n) (hv : vld s = true) (hv2 : vld p = true) (hc : n ≤ 0 ∨ (0 < n ∧ n ≤ (segs s.data.toList).length) ∨ (0 < n ∧ ((segs s.data.toList).length : Int) < n ∧ p.data.toList = [])) :
    Calls Tryd.prog 8 #[.string s, .int .i64 n, .string p] w fun e w' => e = .returned (.bool true) ∧ Below w.heap.size w w' := by
  have hle := (vld_ok2 hv).1
  have hle2 := (vld_ok2 hv2).1
  have hbz : ¬ (2147483647 : Int) < (s.size : Int) := by omega
  have hby : ¬ (2147483647 : Int) < (p.size : Int) := by omega
  have HV : Hid (∀ w, Tabs w → Calls Tryd.prog 12 #[.string s] w fun e w' => e = .returned (.bool true) ∧ Below w.heap.size w w') := Lib.hid fun w hT => hv ▸ valid_any s w (by omega) hT
  have HU : Hid (∀ w, Tabs w → Calls Tryd.prog 12 #[.string p] w fun e w' => e = .returned (.bool true) ∧ Below w.heap.size w w') := Lib.hid fun w hT => hv2 ▸ valid_any p w (by omega) hT
  have cW := fun w => wide_any n w
  rw [show decide (2000 < n) = false by simp; omega] at cW
  have HW := Lib.hid cW
  clear cW
  have cR := fun w => runes_slice s w (by omega)
  have hrl : (rnsOf s.data.toList).length = (segs s.data.toList).length := by simp [rnsOf]
  have hsl := segs_le s
  obtain ⟨m, hm⟩ : ∃ m, (segs s.data.toList).length = m := ⟨_, rfl⟩
  rw [hrl, hm] at cR
  rw [hm] at hsl
  have hmb : m ≤ 4096 := by omega
  have HR : Hid (∀ w, Calls Tryd.prog 14 #[.string s] w fun e w' => ∃ ad cap, e = .returned (.slice ad m cap) ∧ Below w.heap.size w w') := Lib.hid fun w => (cR w).mono (fun e w' ⟨ad, cap, he, _, hb⟩ => ⟨ad, cap, he, hb⟩)
  clear cR
  have HS : Hid (∀ w, Tabs w → Calls Tryd.prog 21 #[.string s, .int .i64 n, .string p] w fun e w' => e = .returned (.string s) ∧ Below w.heap.size w w') := Lib.hid fun w hT => by
    have h1 := implRightJustify_any s n p w (by omega) (by omega) (by omega) hn0 hT
    have h2 : rightB s.data.toList p.data.toList n = s.data.toList := by
      unfold rightB
      rw [if_pos]
      rcases hc with h | h | h
      · exact .inl (by omega)
      · exact .inl h.2
      · exact .inr h.2.2
    rw [h2] at h1
    exact h1
  rw [hm] at hc
  clear hv hv2 hle hle2 hrl hm hsl
  rcases hc with c1 | ⟨c1, c2⟩ | ⟨c1, c2, c3⟩
  · go_enter Tryd.func8, Tryd.ntmps8
    go_wp2_with (go_at_call 12; (with_reducible refine (HV.out _ hT).mono ?_); rintro e w1 ⟨rfl, hb1⟩; dsimp only)
    have hT1 := hT.below hb1
    go_wp2_with (go_at_call 12; (with_reducible refine (HU.out _ hT1).mono ?_); rintro e w2 ⟨rfl, hb2⟩; dsimp only)
    have hT2 := hT1.below hb2
    go_wp2_with (go_at_call 20; (with_reducible refine (HW.out _).mono ?_); rintro e w9 ⟨rfl, rfl⟩; dsimp only)
    go_wp2_with (go_at_call 14; (with_reducible refine (HR.out _).mono ?_); rintro e w3 ⟨ad, cap, rfl, hb3⟩; dsimp only)
    have hT3 := hT2.below hb3
    go_wp2_with (go_at_call 21; (with_reducible refine (HS.out _ hT3).mono ?_); rintro e w4 ⟨rfl, hb4⟩; dsimp only)
    have hT4 := hT3.below hb4
    go_wp2_with (go_at_call 21; (with_reducible refine (rhello_any _ hT4).mono ?_); rintro e w5 ⟨rfl, hb5⟩; dsimp only)
    have hT5 := hT4.below hb5
    go_wp2
    go_ret
    exact ⟨rfl, bthen (bthen (bthen (bthen hb1 hb2) hb3) hb4) hb5⟩
  · have c3 : ¬ 0 < n - (m : Int) := by omega
    go_enter Tryd.func8, Tryd.ntmps8
    go_wp2_with (go_at_call 12; (with_reducible refine (HV.out _ hT).mono ?_); rintro e w1 ⟨rfl, hb1⟩; dsimp only)
    have hT1 := hT.below hb1
    go_wp2_with (go_at_call 12; (with_reducible refine (HU.out _ hT1).mono ?_); rintro e w2 ⟨rfl, hb2⟩; dsimp only)
    have hT2 := hT1.below hb2
    go_wp2_with (go_at_call 20; (with_reducible refine (HW.out _).mono ?_); rintro e w9 ⟨rfl, rfl⟩; dsimp only)
    go_wp2_with (go_at_call 14; (with_reducible refine (HR.out _).mono ?_); rintro e w3 ⟨ad, cap, rfl, hb3⟩; dsimp only)
    have hT3 := hT2.below hb3
    go_wp2_with (go_at_call 21; (with_reducible refine (HS.out _ hT3).mono ?_); rintro e w4 ⟨rfl, hb4⟩; dsimp only)
    have hT4 := hT3.below hb4
    go_wp2_with (go_at_call 21; (with_reducible refine (rhello_any _ hT4).mono ?_); rintro e w5 ⟨rfl, hb5⟩; dsimp only)
    have hT5 := hT4.below hb5
    go_wp2
    go_ret
    exact ⟨rfl, bthen (bthen (bthen (bthen hb1 hb2) hb3) hb4) hb5⟩
  · have c4 : 0 < n - (m : Int) := by omega
    have c5 : p.toList.isEmpty = true := by rw [Lib.toList_data, c3]; rfl
    clear c3
    go_enter Tryd.func8, Tryd.ntmps8
    go_wp2_with (go_at_call 12; (with_reducible refine (HV.out _ hT).mono ?_); rintro e w1 ⟨rfl, hb1⟩; dsimp only)
    have hT1 := hT.below hb1
    go_wp2_with (go_at_call 12; (with_reducible refine (HU.out _ hT1).mono ?_); rintro e w2 ⟨rfl, hb2⟩; dsimp only)
    have hT2 := hT1.below hb2
    go_wp2_with (go_at_call 20; (with_reducible refine (HW.out _).mono ?_); rintro e w9 ⟨rfl, rfl⟩; dsimp only)
    go_wp2_with (go_at_call 14; (with_reducible refine (HR.out _).mono ?_); rintro e w3 ⟨ad, cap, rfl, hb3⟩; dsimp only)
    have hT3 := hT2.below hb3
    go_wp2_with (go_at_call 21; (with_reducible refine (HS.out _ hT3).mono ?_); rintro e w4 ⟨rfl, hb4⟩; dsimp only)
    have hT4 := hT3.below hb4
    go_wp2_with (go_at_call 21; (with_reducible refine (rhello_any _ hT4).mono ?_); rintro e w5 ⟨rfl, hb5⟩; dsimp only)
    have hT5 := hT4.below hb5
    go_wp2
    go_ret
    exact ⟨rfl, bthen (bthen (bthen (bthen hb1 hb2) hb3) hb4) hb5⟩

set_option maxHeartbeats 4000000 in
set_option maxRecDepth 100000 in
theorem fnRightJustify_more (s : ByteArray) (n : Int) (p : ByteArray) (w : World) (hT : Tabs w) (hn : n ≤ 2000) (hn1 : 0 < n) (hv : vld s = true) (hv2 : vld p = true) (hc : ((segs s.data.toList).length : Int) < n) (hp0 : p.data.toList ≠ []) :
    Calls Tryd.prog 8 #[.string s, .int .i64 n, .string p] w fun e w' => e = .returned (.bool true) ∧ Below w.heap.size w w' := by
  have hle := (vld_ok2 hv).1
  have hle2 := (vld_ok2 hv2).1
  have hbz : ¬ (2147483647 : Int) < (s.size : Int) := by omega
  have hby : ¬ (2147483647 : Int) < (p.size : Int) := by omega
  have HV : Hid (∀ w, Tabs w → Calls Tryd.prog 12 #[.string s] w fun e w' => e = .returned (.bool true) ∧ Below w.heap.size w w') := Lib.hid fun w hT => hv ▸ valid_any s w (by omega) hT
  have HU : Hid (∀ w, Tabs w → Calls Tryd.prog 12 #[.string p] w fun e w' => e = .returned (.bool true) ∧ Below w.heap.size w w') := Lib.hid fun w hT => hv2 ▸ valid_any p w (by omega) hT
  have cW := fun w => wide_any n w
  rw [show decide (2000 < n) = false by simp; omega] at cW
  have HW := Lib.hid cW
  clear cW
  have cR := fun w => runes_slice s w (by omega)
  have hrl : (rnsOf s.data.toList).length = (segs s.data.toList).length := by simp [rnsOf]
  have hsl := segs_le s
  obtain ⟨m, hm⟩ : ∃ m, (segs s.data.toList).length = m := ⟨_, rfl⟩
  rw [hrl, hm] at cR
  rw [hm] at hsl
  have hmb : m ≤ 4096 := by omega
  have HR : Hid (∀ w, Calls Tryd.prog 14 #[.string s] w fun e w' => ∃ ad cap, e = .returned (.slice ad m cap) ∧ Below w.heap.size w w') := Lib.hid fun w => (cR w).mono (fun e w' ⟨ad, cap, he, _, hb⟩ => ⟨ad, cap, he, hb⟩)
  clear cR
  obtain ⟨k, hk⟩ : ∃ k : Nat, n - (m : Int) = (k : Int) := ⟨(n - m).toNat, by omega⟩
  rw [hm] at hc
  have hk1 : 0 < (k : Int) := by omega
  have hkb : k ≤ 2000 := by omega
  have hpe := ne_empty hp0
  obtain ⟨PD, hPD⟩ : ∃ PD : ByteArray, ⟨(padOf (segs p.data.toList) k).toArray⟩ = PD := ⟨_, rfl⟩
  have hPL : PD.data.toList = padOf (segs p.data.toList) k := by rw [← hPD]
  have hPs : PD.size ≤ 2001 * 4096 := by
    rw [Lib.size_eq, hPL]
    have h1 := padOf_length (segs p.data.toList) k
    rw [segs_flatten, ← Lib.size_eq] at h1
    have h3 := Nat.div_le_self k (segs p.data.toList).length
    exact Nat.le_trans h1 (Nat.mul_le_mul (by omega) hle2)
  have htx := text_pad p.data.toList (vld_ok2 hv2).2 hp0 k
  rw [hPD] at htx
  have hsz : PD.size + s.size ≤ 9223372036854775807 := by omega
  have HS : Hid (∀ w, Tabs w → Calls Tryd.prog 21 #[.string s, .int .i64 n, .string p] w fun e w' => e = .returned (.string (PD ++ s)) ∧ Below w.heap.size w w') := Lib.hid fun w hT => by
    have h1 := implRightJustify_any s n p w (by omega) (by omega) (by omega) (by omega) hT
    have h2 : (⟨(rightB s.data.toList p.data.toList n).toArray⟩ : ByteArray) = PD ++ s := by
      unfold rightB
      rw [if_neg (by rw [hm]; rintro (h | h); omega; exact hp0 h)]
      have : lack s.data.toList n = k := by unfold lack; rw [hm]; omega
      rw [this, ← hPL]
      apply ByteArray.ext
      apply Array.toList_inj.1
      simp
    rw [h2] at h1
    exact h1
  have hNp := segs_len_pos hp0
  have hNs := segs_le p
  have hrl2 : (rnsOf p.data.toList).length = (segs p.data.toList).length := by simp [rnsOf]
  obtain ⟨XS, hXS⟩ : ∃ XS, rnsOf p.data.toList = XS := ⟨_, rfl⟩
  have cP : ∀ w, Calls Tryd.prog 14 #[.string p] w fun e w' => ∃ g cap, e = .returned (.slice (some ⟨g, 0, none⟩) XS.length cap) ∧ RunesAt w' (some ⟨g, 0, none⟩) XS ∧ g < w'.heap.size ∧ Below w.heap.size w w' := fun w => by
    refine (runes_slice p w (by omega)).mono ?_
    rintro e w' ⟨ad, cap, rfl, hown, hb⟩
    rw [hXS] at hown ⊢
    obtain ⟨h1, h2⟩ := runesAt_own hown
    rw [hXS] at hrl2
    cases ad with
    | none => exact absurd (show XS = [] from h1) (fun e => by rw [e] at hrl2; simp at hrl2; omega)
    | some a =>
      obtain ⟨g, rfl, hg⟩ := h2 a rfl
      exact ⟨g, cap, rfl, h1, hg, hb⟩
  rw [hXS] at htx hrl2
  obtain ⟨N, hN⟩ : ∃ N, XS.length = N := ⟨_, rfl⟩
  rw [hN] at cP
  have hN0 : 0 < N := by omega
  have hNb : N ≤ 4096 := by omega
  have HPd := Lib.hid (fun (g cap : Nat) (w : World) (h : RunesAt w (some ⟨g, 0, none⟩) XS) (hg : g < w.heap.size) => pad_any g cap N k XS w h hN hN0 (by omega) hg (by omega))
  rw [htx] at HPd
  have HP := Lib.hid cP
  clear cP hv hv2 hle hle2 hrl hm hsl htx hPD hPL hrl2 hXS hNp hNs hp0 hN
  go_enter Tryd.func8, Tryd.ntmps8
  go_wp2_with (go_at_call 12; (with_reducible refine (HV.out _ hT).mono ?_); rintro e w1 ⟨rfl, hb1⟩; dsimp only)
  have hT1 := hT.below hb1
  go_wp2_with (go_at_call 12; (with_reducible refine (HU.out _ hT1).mono ?_); rintro e w2 ⟨rfl, hb2⟩; dsimp only)
  have hT2 := hT1.below hb2
  go_wp2_with (go_at_call 20; (with_reducible refine (HW.out _).mono ?_); rintro e w9 ⟨rfl, rfl⟩; dsimp only)
  go_wp2_with (go_at_call 14; (with_reducible refine (HR.out _).mono ?_); rintro e w3 ⟨ad, cap, rfl, hb3⟩; dsimp only)
  have hT3 := hT2.below hb3
  go_wp2_with (go_at_call 14; (with_reducible refine (HP.out _).mono ?_); rintro e w4 ⟨g, cap4, rfl, hra, hg, hb4⟩; dsimp only)
  have hT4 := hT3.below hb4
  go_wp2_with (go_at_call 22; (with_reducible refine (HPd.out _ _ _ hra hg).mono ?_); rintro e w5 ⟨rfl, hb5⟩; dsimp only)
  have hT5 := hT4.below hb5
  go_wp2_with (go_at_call 21; (with_reducible refine (HS.out _ hT5).mono ?_); rintro e w6 ⟨rfl, hb6⟩; dsimp only)
  have hT6 := hT5.below hb6
  go_wp2_with (go_at_call 21; (with_reducible refine (rhello_any _ hT6).mono ?_); rintro e w7 ⟨rfl, hb7⟩; dsimp only)
  have hT7 := hT6.below hb7
  go_wp2
  go_ret
  exact ⟨rfl, bthen (bthen (bthen (bthen (bthen (bthen hb1 hb2) hb3) hb4) hb5) hb6) hb7⟩

theorem fnRightJustify_walk (s : ByteArray) (n : Int) (p : ByteArray) (w : World) (_h1 : s.size ≤ 140737488351232) (h3 : (Lit.int .i64 n).wf = true) (_h2 : p.size ≤ 140737488351232) (hT : Tabs w) :
    Calls Tryd.prog 8 #[.string s, .int .i64 n, .string p] w fun e w' => e = .returned (.bool true) ∧ Below w.heap.size w w' := by
  have b1 := i64_bd h3
  by_cases h : 2147483647 < s.size ∨ 2147483647 < p.size ∨ vld s = false ∨ vld p = false ∨ 2000 < n
  · exact fnRightJustify_early s n p w hT h
  · have hv : vld s = true := by
      cases hv : vld s with
      | true => rfl
      | false => exact absurd (.inr (.inr (.inl hv))) h
    have hv2 : vld p = true := by
      cases hv : vld p with
      | true => rfl
      | false => exact absurd (.inr (.inr (.inr (.inl hv)))) h
    have hn : n ≤ 2000 := Int.not_lt.1 fun hn => h (.inr (.inr (.inr (.inr hn))))
    by_cases c1 : n ≤ 0
    · exact fnRightJustify_same s n p w hT hn b1.1 hv hv2 (.inl c1)
    by_cases c2 : n ≤ (segs s.data.toList).length
    · exact fnRightJustify_same s n p w hT hn b1.1 hv hv2 (.inr (.inl ⟨by omega, c2⟩))
    by_cases c3 : p.data.toList = []
    · exact fnRightJustify_same s n p w hT hn b1.1 hv hv2 (.inr (.inr ⟨by omega, by omega, c3⟩))
    · exact fnRightJustify_more s n p w hT hn (by omega) hv hv2 (by omega) c3
end Go.Proofs.YtobcoplfniojkaaDoor
