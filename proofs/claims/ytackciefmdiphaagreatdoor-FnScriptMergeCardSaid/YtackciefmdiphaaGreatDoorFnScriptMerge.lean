/- The law FnScriptMerge: merging a text into an empty set is loading it. -/
import Derived.Test.YtackciefmdiphaaGreatDoorScript6
import Derived.Test.YtackciefmdiphaaGreatDoorFew1
import Derived.Test.YtackciefmdiphaaGreatDoorLexF
set_option linter.unusedVariables false
namespace Go.Proofs.YtackciefmdiphaaGreatDoor
open Go.RowKit Plain Go.Maps

def pAB : PSt := putV (addC (addK pst0 ⟨#[97]⟩) ⟨#[97]⟩ []) ⟨#[97]⟩ ⟨#[98]⟩
theorem parL_ab : parL (lexL (unbom ⟨#[97, 61, 98]⟩)) [] pst0 = some pAB := by
  rw [unbom_no (by rfl), lexL_ab]
  unfold parL
  simp
  unfold parL
  simp
  rfl
theorem pAB_ks : pAB.ks = [⟨#[97]⟩] := by rfl
theorem pAB_raw : rawOf pAB.D ⟨#[97]⟩ = ⟨#[98]⟩ := by rfl
theorem com_len {p : PSt} (h : PBd 1000000 1000000 p) (k : ByteArray) : ((p.cf k).getD []).length ≤ 10000000 := by
  cases hc : p.cf k with
  | none => simp
  | some l => have := h.cn k l hc; simp; omega
theorem like_of {p : PSt} {f g : ByteArray → ByteArray} {i : Nat} {a b : PropD} (ha : (p.ks.map (dataOf p f))[i]? = some a) (hb : (p.ks.map (dataOf p g))[i]? = some b) : likeD a b := by
  rw [List.getElem?_map] at ha hb
  cases hk : p.ks[i]? with
  | none => rw [hk] at ha; cases ha
  | some k =>
    rw [hk] at ha hb
    simp at ha hb
    subst ha
    subst hb
    exact ⟨rfl, rfl, rfl⟩
theorem lAB : pAB.ks.map (dataOf pAB (fun _ => ⟨#[]⟩)) = [⟨⟨#[97]⟩, ⟨#[98]⟩, ⟨#[]⟩, []⟩] := by rfl
set_option maxHeartbeats 8000000 in
set_option maxRecDepth 100000 in
theorem fnScriptMerge_walk (s : ByteArray) (w : World) (hs0 : s.size ≤ 140737488351232) (hT : Tabs w) :
    Calls Tryz.prog 8 #[.string s] w fun e w' => e = .returned (.bool true) ∧ Below w.heap.size w w' := by
  by_cases hbig : 2147483647 < s.size
  · have hz : (2147483647 : Int) < (s.size : Int) := by omega
    go_enter Tryz.func8, Tryz.ntmps8
    go_wp2
    go_ret
    exact ⟨rfl, Below.refl _ _⟩
  have hz : ¬ (2147483647 : Int) < (s.size : Int) := by omega
  obtain ⟨W0, hW0⟩ : ∃ W, w.alloc (.cells #[.int .i64 6, .string ⟨#[]⟩, .string ⟨#[]⟩, .string ⟨#[97, 61, 98]⟩] 58) = W := ⟨_, rfl⟩
  have hb0 : Below w.heap.size w W0 := hW0 ▸ (Below.refl _ w).alloc (Nat.le_refl _) _
  have hk0 : W0.heap[w.heap.size]? = some (.cells #[.int .i64 6, .string ⟨#[]⟩, .string ⟨#[]⟩, .string ⟨#[97, 61, 98]⟩] 58 (0, 0)) := hW0 ▸ heap_alloc_new w _
  have HAB : Hid (Calls Tryz.prog 29 #[.string ⟨#[36, 123]⟩, .string ⟨#[125]⟩, .bool true, .slice (some ⟨w.heap.size, 0, none⟩) 1 1] W0 (ScPost pAB W0)) := Lib.hid (script6_any ⟨#[97, 61, 98]⟩ w.heap.size 1 W0 (by decide) (hT.below hb0) (some pAB) parL_ab (by simp [World.cell?, hk0]) (by simp [World.cell?, hk0]) (by simp [World.cell?, hk0]) (by simp [World.cell?, hk0]))
  have HT := Lib.hid hT
  have HW0 := Lib.hid hW0
  have HB0 := Lib.hid hb0
  have HVL : Hid (∀ y : World, Below w.heap.size w y → Calls Tryz.prog 22 #[.string s] y fun e w' => e = .returned (.bool (vld s)) ∧ Below y.heap.size y w') := Lib.hid (fun y hy => valid_any s y (by omega) (HT.out.below hy))
  obtain ⟨vb, hvb⟩ : ∃ b, vld s = b := ⟨_, rfl⟩
  rw [hvb] at HVL
  obtain ⟨N, hN⟩ : ∃ N, s.size = N := ⟨_, rfl⟩
  have HN := Lib.hid hN
  have hN2 : N ≤ 2147483647 := by omega
  rw [hN] at hz
  clear hvb hT hbig hs0 hb0 hk0 hW0
  obtain ⟨fb, hfb⟩ : ∃ fb, decide (1 + (N : Int) ≤ 400) = fb := ⟨_, rfl⟩
  have HFB := Lib.hid hfb
  have HFW : Hid (∀ (y : World) (g : Nat), y.cell? ⟨g, 0, none⟩ = some (.string s) → Calls Tryz.prog 15 #[.slice (some ⟨g, 0, none⟩) 1 1] y fun e w' => e = .returned (.bool fb) ∧ w' = y) := Lib.hid (fun y g hc => hfb ▸ few1_any g 1 s y hc N hN hN2)
  clear hfb
  obtain ⟨o, ho⟩ : ∃ o, parL (lexL (unbom s)) [] pst0 = o := ⟨_, rfl⟩
  have HO := Lib.hid ho
  clear ho
  have HLP : Hid (N ≤ 399 → ∀ y, Below w.heap.size w y → Calls Tryz.prog 13 #[.string s, .int .i64 1, .bool true] y (LpPost o y)) := Lib.hid (fun h y hy => loadProps_plain s y (by have := HN.out; omega) (HT.out.below hy) o HO.out)
  have HSC : Hid (N ≤ 399 → ∀ y, Below w.heap.size w y → Calls Tryz.prog 29 #[.string ⟨#[36, 123]⟩, .string ⟨#[125]⟩, .bool true, .slice (some ⟨y.heap.size, 0, none⟩) 1 1] (y.alloc (.cells #[.int .i64 6, .string ⟨#[]⟩, .string ⟨#[]⟩, .string s] 58)) (ScPost (o.getD pst0) (y.alloc (.cells #[.int .i64 6, .string ⟨#[]⟩, .string ⟨#[]⟩, .string s] 58)))) := Lib.hid (fun h y hy => by
    have hk := heap_alloc_new y (.cells #[.int .i64 6, .string ⟨#[]⟩, .string ⟨#[]⟩, .string s] 58)
    exact script6_any s y.heap.size 1 _ (by have := HN.out; omega) (HT.out.below (hy.alloc hy.size _)) o HO.out (by rw [World.cell?_alloc_new]; rfl) (by rw [World.cell?_alloc_new]; rfl) (by rw [World.cell?_alloc_new]; rfl) (by rw [World.cell?_alloc_new]; rfl))
  have HBD : Hid (N ≤ 399 → ∀ p, o = some p → PBd 1000000 1000000 p) := Lib.hid (fun h p hp => parL_small (unbom s) p (by have := unbom_size s; have := HN.out; omega) (hp ▸ HO.out))
  clear HT HO
  by_cases hgo : vb = true ∧ fb = true
  · obtain ⟨rfl, rfl⟩ := hgo
    have hn4 : N ≤ 399 := by have := of_decide_eq_true HFB.out; omega
    have HL := Lib.hid (HLP.out hn4)
    have HS := Lib.hid (HSC.out hn4)
    clear HLP HSC
    cases o with
    | none =>
      go_enter Tryz.func8, Tryz.ntmps8
      go_wp2_with (first
        | (rw [HW0.out])
        | (go_at_call 29; (with_reducible refine HAB.out.mono ?_); rintro e w1 ⟨v1, v2, rfl, hb1, us, hu1, hu2, hu3⟩; have HB1 : Hid (Below w.heap.size w w1) := Lib.hid (bthen HB0.out hb1); rw [lAB] at hu1 hu2; obtain ⟨a2, cp2, rfl⟩ := slq_any hu2; obtain ⟨g2, rfl⟩ := slq_pos hu2 (by decide); obtain ⟨u0, hu0⟩ : ∃ u, us[0]? = some u := ⟨_, List.getElem?_eq_getElem (by rw [hu1]; decide)⟩; have z1 := (prow_cells hu2 (i := 0) (d := ⟨⟨#[97]⟩, ⟨#[98]⟩, ⟨#[]⟩, []⟩) (by decide) rfl hu0).2.1; change w1.cell? ⟨g2, 1, none⟩ = some (.string ⟨#[98]⟩) at z1; clear hb1 hu0 hu1 hu2 hu3; dsimp only)
        | (go_at_call 22; (with_reducible refine (HVL.out _ HB1.out).mono ?_); rintro e w2 ⟨rfl, hb2⟩; have HB2 : Hid (Below w.heap.size w w2) := Lib.hid (bthen HB1.out hb2); clear hb2; dsimp only)
        | (go_at_call 15; (with_reducible refine (HFW.out _ _ (by simp)).mono ?_); rintro e w3 ⟨rfl, rfl⟩; dsimp only)
        | (go_at_call 13; (with_reducible refine (HL.out _ (HB2.out.alloc HB2.out.size _)).mono ?_); rintro e w4 ⟨hb4, rfl⟩; have HB4 : Hid (Below w.heap.size w w4) := Lib.hid (bthen (HB2.out.alloc HB2.out.size _) hb4); clear hb4; dsimp only)
        | (go_at_call 29; (with_reducible refine (HS.out _ HB4.out).mono ?_); rintro e w5 ⟨q1, q2, rfl, hb5, _⟩; have HB5 : Hid (Below w.heap.size w w5) := Lib.hid (bthen (HB4.out.alloc HB4.out.size _) hb5); clear hb5; dsimp only))
      go_ret
      exact ⟨rfl, HB5.out⟩
    | some p =>
      have hbd := HBD.out hn4 p rfl
      go_enter Tryz.func8, Tryz.ntmps8
      go_wp2_with (first
        | (rw [HW0.out])
        | (go_at_call 29; (with_reducible refine HAB.out.mono ?_); rintro e w1 ⟨v1, v2, rfl, hb1, us, hu1, hu2, hu3⟩; have HB1 : Hid (Below w.heap.size w w1) := Lib.hid (bthen HB0.out hb1); rw [lAB] at hu1 hu2; obtain ⟨a2, cp2, rfl⟩ := slq_any hu2; obtain ⟨g2, rfl⟩ := slq_pos hu2 (by decide); obtain ⟨u0, hu0⟩ : ∃ u, us[0]? = some u := ⟨_, List.getElem?_eq_getElem (by rw [hu1]; decide)⟩; have z1 := (prow_cells hu2 (i := 0) (d := ⟨⟨#[97]⟩, ⟨#[98]⟩, ⟨#[]⟩, []⟩) (by decide) rfl hu0).2.1; change w1.cell? ⟨g2, 1, none⟩ = some (.string ⟨#[98]⟩) at z1; clear hb1 hu0 hu1 hu2 hu3; dsimp only)
        | (go_at_call 22; (with_reducible refine (HVL.out _ HB1.out).mono ?_); rintro e w2 ⟨rfl, hb2⟩; have HB2 : Hid (Below w.heap.size w w2) := Lib.hid (bthen HB1.out hb2); clear hb2; dsimp only)
        | (go_at_call 15; (with_reducible refine (HFW.out _ _ (by simp)).mono ?_); rintro e w3 ⟨rfl, rfl⟩; dsimp only)
        | (go_at_call 13; (with_reducible refine (HL.out _ (HB2.out.alloc HB2.out.size _)).mono ?_); rintro e w4 ⟨hb4, q4, rfl, hr4⟩; have HR4 := Lib.hid hr4; have HB4 : Hid (Below w.heap.size w w4) := Lib.hid (bthen (HB2.out.alloc HB2.out.size _) hb4); clear hb4 hr4; dsimp only)
        | (go_at_call 29; (with_reducible refine (HS.out _ HB4.out).mono ?_); rintro e w5 ⟨q1, q2, rfl, hb5, hr5⟩; have HB5 : Hid (Below w.heap.size w w5) := Lib.hid (bthen (HB4.out.alloc HB4.out.size _) hb5); have HEQ := Lib.hid (eqProps_same _ _ q4 q2 (p.ks.map (dataOf p (rawOf p.D))) (p.ks.map (dataOf p (fun _ => ⟨#[]⟩))) w5 p.ks.length (List.length_map ..) (List.length_map ..) (by have := hbd.kn; omega) (fun d hd => by obtain ⟨k, _, rfl⟩ := List.mem_map.1 hd; exact com_len hbd k) (fun i a b ha hb => like_of ha hb) (HR4.out.below (bthen ((Below.refl _ w4).alloc (Nat.le_refl _) _) hb5)) hr5); clear hb5 hr5; dsimp only)
        | (go_at_call 18; (with_reducible refine HEQ.out.mono ?_); rintro e w6 ⟨rfl, hb6⟩; have HB6 : Hid (Below w.heap.size w w6) := Lib.hid (bthen HB5.out hb6); clear hb6; dsimp only))
      go_ret
      exact ⟨rfl, HB6.out⟩
  · cases vb with
    | false =>
      clear hgo HFW HLP HSC
      go_enter Tryz.func8, Tryz.ntmps8
      go_wp2_with (first
        | (rw [HW0.out])
        | (go_at_call 29; (with_reducible refine HAB.out.mono ?_); rintro e w1 ⟨v1, v2, rfl, hb1, us, hu1, hu2, hu3⟩; have HB1 : Hid (Below w.heap.size w w1) := Lib.hid (bthen HB0.out hb1); rw [lAB] at hu1 hu2; obtain ⟨a2, cp2, rfl⟩ := slq_any hu2; obtain ⟨g2, rfl⟩ := slq_pos hu2 (by decide); obtain ⟨u0, hu0⟩ : ∃ u, us[0]? = some u := ⟨_, List.getElem?_eq_getElem (by rw [hu1]; decide)⟩; have z1 := (prow_cells hu2 (i := 0) (d := ⟨⟨#[97]⟩, ⟨#[98]⟩, ⟨#[]⟩, []⟩) (by decide) rfl hu0).2.1; change w1.cell? ⟨g2, 1, none⟩ = some (.string ⟨#[98]⟩) at z1; clear hb1 hu0 hu1 hu2 hu3; dsimp only)
        | (go_at_call 22; (with_reducible refine (HVL.out _ HB1.out).mono ?_); rintro e w2 ⟨rfl, hb2⟩; have HB2 : Hid (Below w.heap.size w w2) := Lib.hid (bthen HB1.out hb2); clear hb2; dsimp only)
        | (go_at_call 15; (with_reducible refine (HFW.out _ _ (by simp)).mono ?_); rintro e w3 ⟨rfl, rfl⟩; dsimp only))
      go_ret
      exact ⟨rfl, HB2.out⟩
    | true =>
      cases fb with
      | true => exact absurd ⟨rfl, rfl⟩ hgo
      | false =>
        clear hgo HLP HSC
        go_enter Tryz.func8, Tryz.ntmps8
        go_wp2_with (first
          | (rw [HW0.out])
          | (go_at_call 29; (with_reducible refine HAB.out.mono ?_); rintro e w1 ⟨v1, v2, rfl, hb1, us, hu1, hu2, hu3⟩; have HB1 : Hid (Below w.heap.size w w1) := Lib.hid (bthen HB0.out hb1); rw [lAB] at hu1 hu2; obtain ⟨a2, cp2, rfl⟩ := slq_any hu2; obtain ⟨g2, rfl⟩ := slq_pos hu2 (by decide); obtain ⟨u0, hu0⟩ : ∃ u, us[0]? = some u := ⟨_, List.getElem?_eq_getElem (by rw [hu1]; decide)⟩; have z1 := (prow_cells hu2 (i := 0) (d := ⟨⟨#[97]⟩, ⟨#[98]⟩, ⟨#[]⟩, []⟩) (by decide) rfl hu0).2.1; change w1.cell? ⟨g2, 1, none⟩ = some (.string ⟨#[98]⟩) at z1; clear hb1 hu0 hu1 hu2 hu3; dsimp only)
          | (go_at_call 22; (with_reducible refine (HVL.out _ HB1.out).mono ?_); rintro e w2 ⟨rfl, hb2⟩; have HB2 : Hid (Below w.heap.size w w2) := Lib.hid (bthen HB1.out hb2); clear hb2; dsimp only)
          | (go_at_call 15; (with_reducible refine (HFW.out _ _ (by simp)).mono ?_); rintro e w3 ⟨rfl, rfl⟩; dsimp only))
        go_ret
        exact ⟨rfl, HB2.out.alloc HB2.out.size _⟩
end Go.Proofs.YtackciefmdiphaaGreatDoor
