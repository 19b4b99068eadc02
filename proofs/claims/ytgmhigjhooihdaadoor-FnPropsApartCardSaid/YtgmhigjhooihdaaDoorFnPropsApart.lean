/- The law FnPropsApart: properties behind one another are written one behind the other. -/
import Derived.Test.YtgmhigjhooihdaaDoorApart
set_option linter.unusedVariables false
namespace Go.Proofs.YtgmhigjhooihdaaDoor
open Go.RowKit Plain Go.Maps

set_option maxHeartbeats 16000000 in
set_option maxRecDepth 100000 in
theorem fnPropsApart_walk (A1 : Option Addr) (n1 c1 : Nat) (l1 : List PropD) (A2 : Option Addr) (n2 c2 : Nat) (l2 : List PropD) (lat : Bool) (w : World)
    (h1 : PrA A1 l1 w) (e1 : l1.length = n1) (k1 : n1 ≤ c1) (m1 : n1 ≤ 9223372036854775807) (z1 : A1 = none → c1 = 0)
    (h2 : PrA A2 l2 w) (e2 : l2.length = n2) (k2 : n2 ≤ c2) (m2 : n2 ≤ 9223372036854775807) (z2 : A2 = none → c2 = 0) (hT : WTab w) :
    Calls Tryd.prog 3 #[.slice A1 n1 c1, .slice A2 n2 c2, .bool lat] w fun e w' => e = .returned (.bool true) ∧ Below w.heap.size w w' := by
  have HA := Lib.hid h1
  have HB := Lib.hid h2
  have HE1 := Lib.hid e1
  have HE2 := Lib.hid e2
  have HZ1 : Hid (A1 = none → c1 = 0 ∧ n1 = 0) := Lib.hid (fun h => ⟨z1 h, by have := z1 h; omega⟩)
  have HZ2 : Hid (A2 = none → c2 = 0 ∧ n2 = 0) := Lib.hid (fun h => ⟨z2 h, by have := z2 h; omega⟩)
  obtain ⟨us1, hus1⟩ := h1.prB
  obtain ⟨us2, hus2⟩ := h2.prB
  have HU1 := Lib.hid hus1
  have HU2 := Lib.hid hus2
  have HT := Lib.hid hT
  have HF1 : Hid (Calls Tryd.prog 4 #[.slice A1 n1 c1] w fun e w' => BoolP (n1 ≤ 2147483647 ∧ ∀ d ∈ l1, FitP d) e ∧ Below w.heap.size w w') := Lib.hid (fits4_any A1 n1 c1 l1 w h1 e1 m1)
  have HF2 : Hid (∀ y, Below w.heap.size w y → Calls Tryd.prog 4 #[.slice A2 n2 c2] y fun e w' => BoolP (n2 ≤ 2147483647 ∧ ∀ d ∈ l2, FitP d) e ∧ Below w.heap.size w w') := Lib.hid (fun y hy => (fits4_any A2 n2 c2 l2 y (h2.below hy) e2 m2).mono (by rintro e w' ⟨h, hb⟩; exact ⟨h, bthen hy hb⟩))
  clear h1 h2 e1 e2 z1 z2 hT hus1 hus2
  go_enter Tryd.func3, Tryd.ntmps3
  go_wp2_with (go_at_call 4; (with_reducible refine HF1.out.mono ?_))
  rintro e w2 ⟨⟨b1, rfl, hf1⟩, hb2⟩
  dsimp only
  have HFA := Lib.hid hf1
  have HB2 := Lib.hid hb2
  clear hf1 hb2
  cases b1 with
  | false =>
    clear HFA
    go_wp2
    go_ret
    exact ⟨rfl, HB2.out⟩
  | true =>
  have HFAt := Lib.hid (HFA.out rfl)
  clear HFA
  go_wp2_with (go_at_call 4; (with_reducible refine (HF2.out _ HB2.out).mono ?_))
  rintro e w3 ⟨⟨b2, rfl, hf2⟩, hb3⟩
  dsimp only
  have HFB := Lib.hid hf2
  have HB3 := Lib.hid hb3
  clear hf2 hb3
  cases b2 with
  | false =>
    clear HFB
    go_wp2
    go_ret
    exact ⟨rfl, HB3.out⟩
  | true =>
  have HFBt := Lib.hid (HFB.out rfl)
  clear HFB
  have hn1 := HFAt.out.1
  have hn2 := HFBt.out.1
  obtain ⟨W3, hW3⟩ : ∃ W, w3.alloc (.cells #[.string ⟨#[97]⟩, .string ⟨#[98]⟩, .string ⟨#[]⟩, .slice none 0 0] 28) = W := ⟨_, rfl⟩
  have hbW3 : Below w.heap.size w W3 := hW3 ▸ HB3.out.alloc HB3.out.size _
  have hWP : Calls Tryd.prog 5 #[.slice (some ⟨w3.heap.size, 0, none⟩) 1 1, .string ⟨#[]⟩, .string ⟨#[]⟩, .int .i64 1] W3 (WrPost [97, 32, 61, 32, 98, 10] W3) := by
    have h9 := wpropsA_any false 1 (.inl rfl) (some ⟨w3.heap.size, 0, none⟩) 1 1 [dAB] ⟨#[]⟩ ⟨#[32, 61, 32]⟩ W3 (fun i d hd => by
      have hi : i = 0 := by have := (List.getElem?_eq_some_iff.1 hd).1; simp at this; exact this
      subst hi
      injection hd with hd
      subst hd
      have hb := heap_alloc_new w3 (.cells #[.string ⟨#[97]⟩, .string ⟨#[98]⟩, .string ⟨#[]⟩, .slice none 0 0] 28)
      rw [hW3] at hb
      obtain ⟨q0, q1, q2, q3⟩ := four_cellsA hb
      exact ⟨_, rfl, q0, q1, q2, none, 0, q3, rowA_nil _ _, Nat.le_refl _, by decide⟩) rfl (by decide) (by simp) (fun d hd => by simp at hd; subst hd; exact sz_ab) (by decide) (by decide) (HT.out.below hbW3) (.inl ⟨rfl, rfl⟩)
    rw [text_ab] at h9
    exact h9
  have HWP := Lib.hid hWP
  have HW3 := Lib.hid hW3
  have HBW3 := Lib.hid hbW3
  clear hWP hW3 hbW3
  go_wp2_with (first
    | (rw [HW3.out])
    | (go_at_call 5; (with_reducible refine HWP.out.mono ?_); rintro e w4 ⟨rfl, hb4⟩; have HB4 : Hid (Below w.heap.size w w4) := Lib.hid (bthen HBW3.out hb4); clear hb4; dsimp only)
    | (at_builtin; refine wp_app (by rfl) _ _ 22 (by rfl) _ _ (by rfl) (by rfl) _ (app_props (B := w4.heap.size) (n := 0) (xs := []) _ (own_empty w4) (HU1.out.below (HB4.out.alloc HB4.out.size _)) HE1.out HZ1.out (by simp) (by omega)) ?_; rintro v5 w5 ⟨ho1, hg1⟩; have HO1 := Lib.hid ho1; have HG1 : Hid (Below w4.heap.size w4 w5) := Lib.hid (((Below.refl _ w4).alloc (Nat.le_refl _) _).grown hg1 (by simp) (fun g hg => by have h9 : w4.heap.size = g := Option.some.inj hg; omega)); clear ho1 hg1)
    | (at_builtin; refine wp_app (by rfl) _ _ 22 (by rfl) _ _ (by rfl) (by rfl) _ (app_props (B := w4.heap.size) _ HO1.out (HU2.out.below (bthen HB4.out HG1.out)) HE2.out HZ2.out HG1.out.size (by omega)) ?_; rintro v6 w6 ⟨ho2, hg2⟩; have HO2 := Lib.hid ho2; have HG2 : Hid (Below w4.heap.size w4 w6) := Lib.hid (HG1.out.grown hg2 HG1.out.size (fun g hg => (row_lt HO1.out hg).1)); clear ho2 hg2))
  have HB6 : Hid (Below w.heap.size w w6) := Lib.hid (bthen HB4.out HG2.out)
  have hown : w6.ownsRow w4.heap.size 28 4 v6 (n1 + n2) ((List.zipWith propV (l1 ++ l2) (us1 ++ us2)).flatten) := by
    rw [zip_app HU1.out.1.1]
    simpa using HO2.out
  have hlen : (l1 ++ l2).length = n1 + n2 := by rw [List.length_append, HE1.out, HE2.out]
  obtain ⟨A6, c6, rfl, hpr, hnc⟩ := prA_own hown hlen ((HU1.out.1.below HB6.out).app (HU2.out.1.below HB6.out))
  have HPR := Lib.hid hpr
  have HLEN := Lib.hid hlen
  have hzc : A6 = none → c6 = 0 ∨ True := fun _ => .inr trivial
  obtain ⟨L, hL⟩ : ∃ L, l1 ++ l2 = L := ⟨_, rfl⟩
  have HLL := Lib.hid hL
  rw [hL] at HPR HLEN
  obtain ⟨NN, hNN⟩ : ∃ m, n1 + n2 = m := ⟨_, rfl⟩
  have hNb : NN ≤ 4294967294 := by omega
  have HFL : Hid (∀ d ∈ L, FitP d) := Lib.hid (fun d hd => by
    rw [← hL] at hd
    rcases List.mem_append.1 hd with h | h
    · exact HFAt.out.2 d h
    · exact HFBt.out.2 d h)
  rw [hNN] at hnc HLEN HO2 ⊢
  have HLI := Lib.hid (listedF_any A6 NN c6 L w6 HPR.out HLEN.out hnc (by omega) HFL.out (HT.out.below HB6.out).1)
  clear hown hpr hlen hL hzc
  go_wp2_with (go_at_call 6; (with_reducible refine HLI.out.mono ?_))
  rintro e w7 ⟨⟨b7, rfl, h7⟩, hb7⟩
  dsimp only
  have HL7 := Lib.hid h7
  have HB7 : Hid (Below w.heap.size w w7) := Lib.hid (bthen HB6.out hb7)
  have HB67 := Lib.hid hb7
  clear h7 hb7
  cases b7 with
  | false =>
    clear HL7
    go_wp2
    go_ret
    exact ⟨rfl, HB7.out⟩
  | true =>
  have HLS := Lib.hid (HL7.out rfl)
  clear HL7
  have hsz := sz_of HLS.out.1 HLS.out.2
  have hn15 : NN ≤ 1500 := by have := totP_len L; have := HLEN.out; have := HLS.out.2; omega
  have hnd := HLS.out.1.nd
  have hnd1 : (l1.map (·.key)).Nodup ∧ (l2.map (·.key)).Nodup := by
    rw [← HLL.out, List.map_append, List.nodup_append] at hnd
    exact ⟨hnd.1, hnd.2.1⟩
  have hs1 : ∀ d ∈ l1, SZ d := fun d hd => hsz d (by rw [← HLL.out]; exact List.mem_append_left _ hd)
  have hs2 : ∀ d ∈ l2, SZ d := fun d hd => hsz d (by rw [← HLL.out]; exact List.mem_append_right _ hd)
  obtain ⟨ec, hec, hec2⟩ : ∃ e : Nat, (e = 1 ∨ e = 2) ∧ (e : Int) = (if lat then 2 else 1) := by
    cases lat
    · exact ⟨1, .inl rfl, rfl⟩
    · exact ⟨2, .inr rfl, rfl⟩
  have hX1 := fun y (hy : Below w.heap.size w y) => wpropsA_any false ec hec A1 n1 c1 l1 ⟨#[]⟩ ⟨#[32, 61, 32]⟩ y (HA.out.below hy) HE1.out (by omega) hnd1.1 hs1 (by decide) (by decide) (HT.out.below hy) (.inl ⟨rfl, rfl⟩)
  have hX2 := fun y (hy : Below w.heap.size w y) => wpropsA_any false ec hec A2 n2 c2 l2 ⟨#[]⟩ ⟨#[32, 61, 32]⟩ y (HB.out.below hy) HE2.out (by omega) hnd1.2 hs2 (by decide) (by decide) (HT.out.below hy) (.inl ⟨rfl, rfl⟩)
  have hX3 := fun y (hy : Below w.heap.size w y) (hy6 : Below w6.heap.size w6 y) => wpropsA_any false ec hec A6 NN c6 L ⟨#[]⟩ ⟨#[32, 61, 32]⟩ y (HPR.out.below hy6) HLEN.out (by omega) hnd hsz (by decide) (by decide) (HT.out.below hy) (.inl ⟨rfl, rfl⟩)
  have hlen1 := linesD_len ⟨#[32, 61, 32]⟩ ec l1 hs1 (by decide)
  have hlen2 := linesD_len ⟨#[32, 61, 32]⟩ ec l2 hs2 (by decide)
  rw [allE_D _ _ _ hnd1.1] at hX1
  rw [allE_D _ _ _ hnd1.2] at hX2
  rw [allE_D _ _ _ hnd] at hX3
  have hZZ : (L.map (lineD ⟨#[32, 61, 32]⟩ ec)).flatten = (l1.map (lineD ⟨#[32, 61, 32]⟩ ec)).flatten ++ (l2.map (lineD ⟨#[32, 61, 32]⟩ ec)).flatten := by
    rw [← HLL.out, List.map_append, List.flatten_append]
  rw [hZZ] at hX3
  obtain ⟨Z1, hZ1⟩ : ∃ Z, (l1.map (lineD ⟨#[32, 61, 32]⟩ ec)).flatten = Z := ⟨_, rfl⟩
  obtain ⟨Z2, hZ2⟩ : ∃ Z, (l2.map (lineD ⟨#[32, 61, 32]⟩ ec)).flatten = Z := ⟨_, rfl⟩
  rw [hZ1] at hX1 hX3 hlen1
  rw [hZ2] at hX2 hX3 hlen2
  rw [HE1.out] at hlen1
  rw [HE2.out] at hlen2
  obtain ⟨K1, hK1⟩ : ∃ k, Z1.length = k := ⟨_, rfl⟩
  obtain ⟨K2, hK2⟩ : ∃ k, Z2.length = k := ⟨_, rfl⟩
  obtain ⟨T1, hT1⟩ : ∃ t : ByteArray, ⟨Z1.toArray⟩ = t := ⟨_, rfl⟩
  obtain ⟨T2, hT2⟩ : ∃ t : ByteArray, ⟨Z2.toArray⟩ = t := ⟨_, rfl⟩
  obtain ⟨T3, hT3⟩ : ∃ t : ByteArray, ⟨(Z1 ++ Z2).toArray⟩ = t := ⟨_, rfl⟩
  have hs1 : T1.size = K1 := by rw [← hT1, ← hK1]; rfl
  have hs2 : T2.size = K2 := by rw [← hT2, ← hK2]; rfl
  have he3 : T3 = T1 ++ T2 := by
    rw [← hT1, ← hT2, ← hT3]
    apply ByteArray.ext
    simp
  have hK3 : (Z1 ++ Z2).length = K1 + K2 := by rw [List.length_append, hK1, hK2]
  unfold WrPost at hX1 hX2 hX3
  rw [hT1, hK1] at hX1
  rw [hT2, hK2] at hX2
  rw [hT3, hK3] at hX3
  have HX1 := Lib.hid hX1
  have HX2 := Lib.hid hX2
  have HX3 := Lib.hid hX3
  have heq3 : (T3.toList == (T1 ++ T2).toList) = true := eq_yes he3
  rw [hK1] at hlen1
  rw [hK2] at hlen2
  have hb1 : T1.size ≤ 195000000 := by omega
  have hb2 : T2.size ≤ 195000000 := by omega
  have hk1 : K1 ≤ 195000000 := by omega
  have hk2 : K2 ≤ 195000000 := by omega
  clear hX1 hX2 hX3 hT1 hT2 hT3 hK1 hK2 hK3 hs1 hs2 he3 hZ1 hZ2 hZZ hlen1 hlen2 hsz hnd hnd1
  cases lat with
  | false =>
    have hE : (ec : Int) = 1 := hec2
    rw [hE, show pfx false = ⟨#[]⟩ from rfl] at HX1 HX2 HX3
    clear hE hec2
    go_wp2_with (first
      | (go_at_call 5; (with_reducible refine (HX1.out _ HB7.out).mono ?_); rintro e w8 ⟨rfl, hb8⟩; have HB8 : Hid (Below w.heap.size w w8) := Lib.hid (bthen HB7.out hb8); have HB68 := Lib.hid (bthen HB67.out hb8); clear hb8; dsimp only)
      | (go_at_call 5; (with_reducible refine (HX2.out _ HB8.out).mono ?_); rintro e w9 ⟨rfl, hb9⟩; have HB9 : Hid (Below w.heap.size w w9) := Lib.hid (bthen HB8.out hb9); have HB69 := Lib.hid (bthen HB68.out hb9); clear hb9; dsimp only)
      | (go_at_call 5; (with_reducible refine (HX3.out _ HB9.out HB69.out).mono ?_); rintro e wa ⟨rfl, hba⟩; have HBa : Hid (Below w.heap.size w wa) := Lib.hid (bthen HB9.out hba); clear hba; dsimp only))
    go_ret
    exact ⟨rfl, HBa.out⟩
  | true =>
    have hE : (ec : Int) = 2 := hec2
    rw [hE, show pfx false = ⟨#[]⟩ from rfl] at HX1 HX2 HX3
    clear hE hec2
    go_wp2_with (first
      | (go_at_call 5; (with_reducible refine (HX1.out _ HB7.out).mono ?_); rintro e w8 ⟨rfl, hb8⟩; have HB8 : Hid (Below w.heap.size w w8) := Lib.hid (bthen HB7.out hb8); have HB68 := Lib.hid (bthen HB67.out hb8); clear hb8; dsimp only)
      | (go_at_call 5; (with_reducible refine (HX2.out _ HB8.out).mono ?_); rintro e w9 ⟨rfl, hb9⟩; have HB9 : Hid (Below w.heap.size w w9) := Lib.hid (bthen HB8.out hb9); have HB69 := Lib.hid (bthen HB68.out hb9); clear hb9; dsimp only)
      | (go_at_call 5; (with_reducible refine (HX3.out _ HB9.out HB69.out).mono ?_); rintro e wa ⟨rfl, hba⟩; have HBa : Hid (Below w.heap.size w wa) := Lib.hid (bthen HB9.out hba); clear hba; dsimp only))
    go_ret
    exact ⟨rfl, HBa.out⟩
end Go.Proofs.YtgmhigjhooihdaaDoor
