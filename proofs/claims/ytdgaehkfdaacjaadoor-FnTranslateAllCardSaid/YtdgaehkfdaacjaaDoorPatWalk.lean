/- The walk of spec.Pattern on a text that is UTF-8. -/
import Derived.Test.YtdgaehkfdaacjaaDoorPatMem
import Derived.Deep.CutBlock
import Derived.Deep.DeepCutAuto
import Derived.Deep.AppendLies
import Derived.LoopTactic
import Derived.WalkMore
set_option linter.unusedVariables false
namespace Go.Proofs.YtdgaehkfdaacjaaDoor
open Go.RowKit Plain Go.Maps

theorem pat_nil (tob : Bool) {p : List Nat} (h : p.head? ≠ some 94 ∨ tob = true) : patS tob p = (patF tob false p true false []).map fun L => (L, false) := by
  unfold patS
  rw [if_neg (fun y => h.elim (fun z => z y.1) (fun z => by rw [z] at y; exact absurd y.2 (by decide)))]

set_option maxHeartbeats 16000000 in
set_option maxRecDepth 100000 in
theorem pattern_good (s : ByteArray) (tob : Bool) (w : World) (hs : s.size ≤ 2000) (hT : Tabs w) (hv : Lib.validD s.data.toList = true) :
    Calls Tryd.prog 25 #[.string s, .bool tob] w fun e w' => PatRes (rnsOf s.data.toList) tob w.heap.size e w' ∧ Below w.heap.size w w' := by
  obtain ⟨i0, hi, hz0, hz1, hz2⟩ := info_parts infoRune
  have HS := Lib.hid (fun w g hg hT => set_lit w g hg s hs hT true hv)
  clear hv
  obtain ⟨L, hL⟩ : ∃ L, rnsOf s.data.toList = L := ⟨_, rfl⟩
  have hLle := rnsOf_length s.data.toList
  have hLr := rnsOf_le s.data.toList
  have hA : Conv.runesFrom s s.size 0 #[] = (L.map rcell).toArray := by
    rw [convRunes s s.size 0 #[] (by omega)]
    simp [hL]
  have HCV := Lib.hid (fun w1 => by
    have hcv := run_runes_of_string (P := Tryd.prog) w1 9 33 21 s Tryd.underlying9 Tryd.underlying33 Tryd.underlying21 (by have := size_runesFrom s s.size 0 #[]; simp at this; omega)
    rw [hA, show ((L.map rcell).toArray).size = L.length by simp] at hcv
    exact hcv)
  rw [hL] at hLle hLr ⊢
  rw [← Lib.size_eq] at hLle
  have HLR := Lib.hid hLr
  clear hLr hA hL
  have hB0 : Below w.heap.size w ((w.alloc (.cells #[.slice none 0 0, .bool false] 40)).alloc (.cells #[.slice none 0 0, .bool false] 40)) := ((Below.refl _ w).alloc (Nat.le_refl _) _).alloc (by simp) _
  have hT0 := hT.below hB0
  go_enter Tryd.func25, Tryd.ntmps25
  go_wp2_with (go_at_call 30; (with_reducible refine (HS.out _ (w.heap.size + 1 + 1) (by simp) hT0).mono ?_))
  rintro e w1 ⟨rfl, hb1⟩
  dsimp only
  have hs1 := hb1.size
  obtain ⟨x1, x2, hB1⟩ := two_sets hb1
  have hcv := HCV.out w1
  clear HCV hb1
  have hcap := grownCap_ge w1 L.length 0 21
  have hrow : RowR w1.heap.size L (w1.drew.alloc (.cells ((L.map rcell).toArray ++ Array.replicate (grownCap w1 L.length 0 21 - L.length) (.int .i32 0)) 21)) := ⟨_, heap_alloc_new w1.drew _⟩
  have hps : PS w w1.heap.size L [] (.slice none 0 0) false (w1.drew.alloc (.cells ((L.map rcell).toArray ++ Array.replicate (grownCap w1 L.length 0 21 - L.length) (.int .i32 0)) 21)) :=
    ⟨(Below.heap_alloc w1.drew _ _ (by simp at hs1 ⊢; omega)).trans x1, (Below.heap_alloc w1.drew _ _ (by simp at hs1 ⊢; omega)).trans x2, hrow, by simp at hs1; omega, World.ownsRow_nil _ _ _ _, hB1.drew.alloc hB1.size _⟩
  generalize w1.drew.alloc (.cells ((L.map rcell).toArray ++ Array.replicate (grownCap w1 L.length 0 21 - L.length) (.int .i32 0)) 21) = W1 at hcv hps
  generalize grownCap w1 L.length 0 21 = CAP at hcv hcap
  obtain ⟨R, hR⟩ : ∃ R, w1.heap.size = R := ⟨_, rfl⟩
  rw [hR] at hcv hps
  obtain ⟨n, hn⟩ : ∃ n, L.length = n := ⟨_, rfl⟩
  rw [hn] at hcv hcap hLle
  have HN := Lib.hid hn
  clear hR hn hB1 hrow x1 x2 hs1
  have HP := Lib.hid hps
  clear hps
  go_upto_region 5 with fail
  go_cut [32] from 20 to 32 (fun cv wx => ∃ b : Bool, cv = .bool b ∧ PS w R L [] (.slice none 0 0) false wx ∧ (b = true → 1 ≤ n ∧ L.head? = some 94 ∧ tob = false) ∧ (b = false → L.head? ≠ some 94 ∨ tob = true))
  case first =>
    obtain ⟨d1, d2, d3, d4⟩ := two_cells HP.out.x
    obtain ⟨e1, e2, e3, e4⟩ := two_cells HP.out.res
    by_cases hn0 : n = 0
    · subst hn0
      have HE : Hid (L = []) := Lib.hid (List.length_eq_zero_iff.1 HN.out)
      go_wp2_with fail
      go_meet
      exact ⟨false, rfl, HP.out, by simp, fun _ => Or.inl (by rw [HE.out]; simp)⟩
    · have hnz : (0 : Int) < (n : Int) := by omega
      obtain ⟨c, hc⟩ : ∃ c, L[0]? = some c := ⟨_, List.getElem?_eq_getElem (by rw [HN.out]; omega)⟩
      have hcell := HP.out.row.cell hc
      have hhd : L.head? = some c := by rw [List.head?_eq_getElem?]; exact hc
      have HD := Lib.hid hhd
      clear hc hhd
      by_cases h94 : c = 94
      · subst h94
        cases tob with
        | true =>
          go_wp2_with fail
          go_meet
          exact ⟨false, rfl, HP.out, by simp, fun _ => Or.inr (by simp)⟩
        | false =>
          go_wp2_with fail
          go_meet
          exact ⟨true, rfl, HP.out, fun _ => ⟨by omega, HD.out, by simp⟩, by simp⟩
      · have hcz : ((c : Int) == 94) = false := by rw [beq_eq_false_iff_ne]; omega
        have H94 := Lib.hid h94
        clear h94
        go_wp2_with fail
        go_meet
        exact ⟨false, rfl, HP.out, by simp, fun _ => Or.inl (by rw [HD.out]; simpa using H94.out)⟩
  case rest =>
  obtain ⟨b, rfl, hps, hb1, hb2⟩ := hcut
  have HP2 := Lib.hid hps
  have HB1 := Lib.hid hb1
  have HB2 := Lib.hid hb2
  clear hps hb1 hb2 HP
  go_upto_if 32 with fail
  go_cut [7] from 33 to 39 (fun pv wx => ∃ (o m cap : Nat) (nt : Bool), pv = .slice (some ⟨R, o, none⟩) m cap ∧ o + m = n ∧ (nt = true → 1 ≤ o) ∧ PS w R L [] (.slice none 0 0) nt wx ∧ patS tob L = (patF tob nt (L.drop o) true false []).map fun l => (l, nt))
  case first =>
    cases b with
    | false =>
      go_wp2_with fail
      go_meet
      exact ⟨0, n, CAP, false, rfl, by omega, by simp, HP2.out, pat_nil tob (HB2.out (by simp))⟩
    | true =>
      obtain ⟨d1, d2, d3, d4⟩ := two_cells HP2.out.x
      obtain ⟨e1, e2, e3, e4⟩ := two_cells HP2.out.res
      by_cases hn1 : n = 1
      · have hn1z : ((n : Int) == 1) = true := by rw [beq_iff_eq]; omega
        have HT : Hid (L.tail = []) := Lib.hid (List.eq_nil_of_length_eq_zero (by rw [List.length_tail, HN.out]; omega))
        have HQ : Hid (patS tob L = none) := Lib.hid (by unfold patS; rw [if_pos (HB1.out (by simp)).2, if_pos HT.out])
        subst hn1
        go_wp2
        (try simp only [Exit.inBlock, Exit.then])
        refine bodyPost_ret (pat_res (n := 2) (by rfl) (by rfl) (set2 HP2.out.res)) rfl ?_
        exact ⟨Or.inl ⟨⟨_, _, _, _, rfl⟩, HQ.out⟩, (HP2.out.bel.setCell (Nat.le_refl _) _).setCell (Nat.le_refl _) _⟩
      · have hn1z : ((n : Int) == 1) = false := by rw [beq_eq_false_iff_ne]; omega
        have hn2 : 1 ≤ n := (HB1.out (by simp)).1
        go_wp2
        go_region
        go_wp2_with fail
        go_meet
        exact ⟨1, n - 1, CAP - 1, true, by simp, by omega, by simp, HP2.out.flag.drew, by
          have h0 := (HB1.out (by simp)).2
          have h1 : L.tail ≠ [] := fun e => by
            have := congrArg List.length e
            rw [List.length_tail, HN.out] at this
            simp at this
            omega
          unfold patS
          rw [if_pos h0, if_neg h1, List.drop_one]⟩
  case rest =>
    obtain ⟨o, m, cap, nt, rfl, hom, hon, hps, hpat⟩ := hcut
    clear HP2 hT hT0 HS hB0 HB1 HB2
    obtain ⟨Q, hQ⟩ : ∃ Q, L.drop o = Q := ⟨_, rfl⟩
    rw [hQ] at hpat
    have HQM : Hid (Q.length = m) := Lib.hid (by rw [← hQ, List.length_drop, HN.out]; omega)
    have HQC : Hid (∀ j x, Q[j]? = some x → L[o + j]? = some x) := Lib.hid (by intro j x h; rw [← hQ, List.getElem?_drop] at h; exact h)
    have HQR : Hid (∀ x ∈ Q, x ≤ 1114111) := Lib.hid (fun x hx => HLR.out x (List.mem_of_mem_drop (hQ ▸ hx)))
    have HPAT := Lib.hid hpat
    have hm : m ≤ 2000 := by omega
    have HPS0 := Lib.hid hps
    clear hQ hpat hps
    go_wp2
    go_loopw [8, 9] (fun sv iv wr => ∃ (sg : Bool) (i : Nat) (K : List Nat) (lv : Value), sv = .bool sg ∧ iv = .int .i64 i ∧ i ≤ m ∧ PS w R L K lv nt wr ∧ (sg = true → 1 ≤ K.length) ∧ K.length ≤ i * 5001 ∧ (∀ r ∈ K, r ≤ 1114111) ∧ (patF tob nt (Q.drop i) (decide (i = 0)) sg K).map (fun l => (l, nt)) = patS tob L) (fun _ iv _ => match iv with | .int _ i => m - i.toNat | _ => 0)
    case atStart => exact ⟨false, 0, [], _, rfl, rfl, by omega, HPS0.out, by simp, by simp, by simp, by simpa using HPAT.out.symm⟩
    case round =>
      obtain ⟨sg, i, K, lv, rfl, rfl, him, hps, hsg, hKl, hKr, hpf⟩ := hrel
      obtain ⟨A, kc, rfl⟩ := hps.shape
      obtain ⟨d1, d2, d3, d4⟩ := two_cells hps.x
      obtain ⟨e1, e2, e3, e4⟩ := two_cells hps.res
      have HP := Lib.hid hps
      have HPF := Lib.hid hpf
      have HKR := Lib.hid hKr
      have HSG := Lib.hid hsg
      have hK2 : K.length ≤ 11000000 := by
        have : i * 5001 ≤ 2000 * 5001 := Nat.mul_le_mul_right _ (by omega)
        omega
      clear hps hpf hKr hsg HPAT HPS0
      by_cases hlt : i < m
      · have hltz : (i : Int) < (m : Int) := by omega
        obtain ⟨c, hc⟩ : ∃ c, Q[i]? = some c := ⟨_, List.getElem?_eq_getElem (by rw [HQM.out]; omega)⟩
        have hcell := HP.out.row.cell (HQC.out i c hc)
        have HC1 : Hid (c ≤ 1114111) := Lib.hid (HQR.out c (List.mem_of_getElem? hc))
        have HDR : Hid (Q.drop i = c :: Q.drop (i + 1)) := Lib.hid (by
          obtain ⟨h1, h2⟩ := List.getElem?_eq_some_iff.1 hc
          rw [← h2]
          exact List.drop_eq_getElem_cons h1)
        rw [HDR.out] at HPF
        clear hc
        by_cases h92 : c = 92
        · subst h92
          by_cases hl2 : i + 1 < m
          · have hie : ((i : Int) + 1 == (m : Int)) = false := by rw [beq_eq_false_iff_ne]; omega
            have hl2z : (i : Int) + 1 < (m : Int) := by omega
            obtain ⟨d, hd⟩ : ∃ d, Q[i + 1]? = some d := ⟨_, List.getElem?_eq_getElem (by rw [HQM.out]; omega)⟩
            have hcell2 := HP.out.row.cell (HQC.out (i + 1) d hd)
            have HD1 : Hid (d ≤ 1114111) := Lib.hid (HQR.out d (List.mem_of_getElem? hd))
            have HDR2 : Hid (Q.drop (i + 1) = d :: Q.drop (i + 2)) := Lib.hid (by
              obtain ⟨h1, h2⟩ := List.getElem?_eq_some_iff.1 hd
              rw [← h2]
              exact List.drop_eq_getElem_cons h1)
            rw [HDR2.out] at HPF
            clear hd
            by_cases k1 : d = 92
            · subst k1
              have hi1z : (0 : Int) ≤ (i : Int) + 1 := by omega
              have hi1n : ((i : Int) + 1).toNat = i + 1 := by omega
              have hx1 : w.heap.size + 1 < wr.heap.size := by have h1 := HP.out.hi; have h2 := HP.out.lt; omega
              have hx2 : (Value.slice A K.length kc).ownBlock ≠ some (w.heap.size + 1) := fun e => by have h1 := (row_is HP.out.own e).1; have h2 := HP.out.lt; omega
              as_aux_lemma =>
                go_upto_region 19 with fail
                go_cut [8] from 91 to 99 (fun sv wx => sv = .bool false ∧ ∃ lv', PS w R L (K ++ [92]) lv' nt wx)
                case first =>
                  go_region_law (refine step_append_lies _ (by rfl) _ _ 33 (by rfl) (R + 1) 21 i0 (.int .i32 0) 1 4 Tryd.underlying33 hi hz0 hz1 hz2 rfl (by decide) (.slice A K.length kc) K.length (K.map rcell) (by rfl) (by first | exact HP.out.own.alloc _ | exact HP.out.drew.own.alloc _) ⟨wr.heap.size, 0, none⟩ 1 1 [.int .i32 92] (by rfl) rfl (by first | exact cell_one_new _ _ _ | (intro j u hu; simp at hu; obtain ⟨rfl, rfl⟩ := hu; simp)) (by intro u hu; simp at hu; subst hu; rfl) (by decide) (by unfold maxLen; omega) (by omega) (by have := HP.out.hi; simp; omega) (wr.heap.size + 1) (by simp) ?_; intro g2 cap2 w3 hown1 hgrow hat hlt2; obtain ⟨k1, k2, k3, k4⟩ := two_cells ((hgrow.block (w.heap.size + 1) (Nat.lt_of_lt_of_le hx1 (by simp)) (fun e => hx2 e.symm)).trans ((Below.heap_alloc wr _ _ hx1).trans HP.out.x)))
                  all_goals
                    go_wp2_with fail
                    go_meet
                    exact ⟨rfl, _, by first | exact HP.out.push 92 _ hown1 hgrow | exact HP.out.drew.push 92 _ hown1 hgrow | exact (HP.out.push 92 _ hown1 hgrow).drew⟩
                case rest =>
                  obtain ⟨rfl, lv', hps2⟩ := hcut
                  obtain ⟨A2, kc2, rfl⟩ := hps2.shape
                  obtain ⟨d1, d2, d3, d4⟩ := two_cells hps2.x
                  obtain ⟨e1, e2, e3, e4⟩ := two_cells hps2.res
                  have HPU := Lib.hid hps2
                  have HN1 : Hid ((Q.drop (i + 2)).head? = Q[i + 2]?) := Lib.hid List.head?_drop
                  clear hps2
                  by_cases hl3 : i + 2 < m
                  · have hl3z : (i : Int) + 1 + 1 < (m : Int) := by omega
                    have hi2z : (0 : Int) ≤ (i : Int) + 1 + 1 := by omega
                    obtain ⟨d, hd⟩ : ∃ d, Q[i + 2]? = some d := ⟨_, List.getElem?_eq_getElem (by rw [HQM.out]; omega)⟩
                    have hcell3 : _ = some (Value.int .i32 (d : Int)) := HPU.out.row.cell (k := o + (i + 1 + 1)) (HQC.out (i + 2) d hd)
                    have HND := Lib.hid (HN1.out.trans hd)
                    clear hd HN1
                    by_cases hd45 : d = 45
                    · subst hd45
                      have HNO := Lib.hid (pat_esc2 tob nt (decide (i = 0)) sg K (d := 92) (Q.drop (i + 2)) HND.out)
                      go_wp2
                      (try simp only [Exit.inBlock, Exit.then])
                      refine bodyPost_ret (pat_res (n := 2) (by rfl) (by rfl) (set2 HPU.out.res)) rfl ?_
                      exact ⟨Or.inl ⟨⟨_, _, _, _, rfl⟩, by have e := HPF.out; rw [HNO.out] at e; exact e.symm⟩, (HPU.out.bel.setCell (Nat.le_refl _) _).setCell (Nat.le_refl _) _⟩
                    · have hd45z : ((d : Int) == 45) = false := by rw [beq_eq_false_iff_ne]; omega
                      have HQN : Hid ((Q.drop (i + 2)).head? ≠ some 45) := Lib.hid (by rw [HND.out]; simpa using hd45)
                      clear hd45
                      go_wp2
                      go_roundw
                      case rel =>
                        exact ⟨false, i + 2, K ++ [92], _, rfl, by go_num, by omega, HPU.out, by simp, by simp; omega, fun r hr => (List.mem_append.1 hr).elim (HKR.out r) (fun y => by rw [List.mem_singleton.1 y]; omega), by have e := HPF.out; rw [pat_esc3 _ _ _ _ _ _ (by decide) HQN.out] at e; simpa using e⟩
                      case measure => show m - ((i : Int) + 1 + 1).toNat < m - (i : Int).toNat; omega
                  · have hl3z : ¬ (i : Int) + 1 + 1 < (m : Int) := by omega
                    have HQN : Hid ((Q.drop (i + 2)).head? ≠ some 45) := Lib.hid (by rw [HN1.out, List.getElem?_eq_none (by rw [HQM.out]; omega)]; simp)
                    go_wp2
                    go_roundw
                    case rel =>
                      exact ⟨false, i + 2, K ++ [92], _, rfl, by go_num, by omega, HPU.out, by simp, by simp; omega, fun r hr => (List.mem_append.1 hr).elim (HKR.out r) (fun y => by rw [List.mem_singleton.1 y]; omega), by have e := HPF.out; rw [pat_esc3 _ _ _ _ _ _ (by decide) HQN.out] at e; simpa using e⟩
                    case measure => show m - ((i : Int) + 1 + 1).toNat < m - (i : Int).toNat; omega
            · have k1z : ((d : Int) == 92) = false := by rw [beq_eq_false_iff_ne]; omega
              have k1p : ¬ (d : Int) = 92 := by omega
              have k1y : ((d : Int) != 92) = true := by rw [bne_iff_ne]; omega
              by_cases k2 : d = 45
              · subst k2
                have hi1z : (0 : Int) ≤ (i : Int) + 1 := by omega
                have hi1n : ((i : Int) + 1).toNat = i + 1 := by omega
                have hx1 : w.heap.size + 1 < wr.heap.size := by have h1 := HP.out.hi; have h2 := HP.out.lt; omega
                have hx2 : (Value.slice A K.length kc).ownBlock ≠ some (w.heap.size + 1) := fun e => by have h1 := (row_is HP.out.own e).1; have h2 := HP.out.lt; omega
                as_aux_lemma =>
                  go_upto_region 19 with fail
                  go_cut [8] from 91 to 99 (fun sv wx => sv = .bool false ∧ ∃ lv', PS w R L (K ++ [45]) lv' nt wx)
                  case first =>
                    go_region_law (refine step_append_lies _ (by rfl) _ _ 33 (by rfl) (R + 1) 21 i0 (.int .i32 0) 1 4 Tryd.underlying33 hi hz0 hz1 hz2 rfl (by decide) (.slice A K.length kc) K.length (K.map rcell) (by rfl) (by first | exact HP.out.own.alloc _ | exact HP.out.drew.own.alloc _) ⟨wr.heap.size, 0, none⟩ 1 1 [.int .i32 45] (by rfl) rfl (by first | exact cell_one_new _ _ _ | (intro j u hu; simp at hu; obtain ⟨rfl, rfl⟩ := hu; simp)) (by intro u hu; simp at hu; subst hu; rfl) (by decide) (by unfold maxLen; omega) (by omega) (by have := HP.out.hi; simp; omega) (wr.heap.size + 1) (by simp) ?_; intro g2 cap2 w3 hown1 hgrow hat hlt2; obtain ⟨k1, k2, k3, k4⟩ := two_cells ((hgrow.block (w.heap.size + 1) (Nat.lt_of_lt_of_le hx1 (by simp)) (fun e => hx2 e.symm)).trans ((Below.heap_alloc wr _ _ hx1).trans HP.out.x)))
                    all_goals
                      go_wp2_with fail
                      go_meet
                      exact ⟨rfl, _, by first | exact HP.out.push 45 _ hown1 hgrow | exact HP.out.drew.push 45 _ hown1 hgrow | exact (HP.out.push 45 _ hown1 hgrow).drew⟩
                  case rest =>
                    obtain ⟨rfl, lv', hps2⟩ := hcut
                    obtain ⟨A2, kc2, rfl⟩ := hps2.shape
                    obtain ⟨d1, d2, d3, d4⟩ := two_cells hps2.x
                    obtain ⟨e1, e2, e3, e4⟩ := two_cells hps2.res
                    have HPU := Lib.hid hps2
                    have HN1 : Hid ((Q.drop (i + 2)).head? = Q[i + 2]?) := Lib.hid List.head?_drop
                    clear hps2
                    by_cases hl3 : i + 2 < m
                    · have hl3z : (i : Int) + 1 + 1 < (m : Int) := by omega
                      have hi2z : (0 : Int) ≤ (i : Int) + 1 + 1 := by omega
                      obtain ⟨d, hd⟩ : ∃ d, Q[i + 2]? = some d := ⟨_, List.getElem?_eq_getElem (by rw [HQM.out]; omega)⟩
                      have hcell3 : _ = some (Value.int .i32 (d : Int)) := HPU.out.row.cell (k := o + (i + 1 + 1)) (HQC.out (i + 2) d hd)
                      have HND := Lib.hid (HN1.out.trans hd)
                      clear hd HN1
                      by_cases hd45 : d = 45
                      · subst hd45
                        have HNO := Lib.hid (pat_esc2 tob nt (decide (i = 0)) sg K (d := 45) (Q.drop (i + 2)) HND.out)
                        go_wp2
                        (try simp only [Exit.inBlock, Exit.then])
                        refine bodyPost_ret (pat_res (n := 2) (by rfl) (by rfl) (set2 HPU.out.res)) rfl ?_
                        exact ⟨Or.inl ⟨⟨_, _, _, _, rfl⟩, by have e := HPF.out; rw [HNO.out] at e; exact e.symm⟩, (HPU.out.bel.setCell (Nat.le_refl _) _).setCell (Nat.le_refl _) _⟩
                      · have hd45z : ((d : Int) == 45) = false := by rw [beq_eq_false_iff_ne]; omega
                        have HQN : Hid ((Q.drop (i + 2)).head? ≠ some 45) := Lib.hid (by rw [HND.out]; simpa using hd45)
                        clear hd45
                        go_wp2
                        go_roundw
                        case rel =>
                          exact ⟨false, i + 2, K ++ [45], _, rfl, by go_num, by omega, HPU.out, by simp, by simp; omega, fun r hr => (List.mem_append.1 hr).elim (HKR.out r) (fun y => by rw [List.mem_singleton.1 y]; omega), by have e := HPF.out; rw [pat_esc3 _ _ _ _ _ _ (by decide) HQN.out] at e; simpa using e⟩
                        case measure => show m - ((i : Int) + 1 + 1).toNat < m - (i : Int).toNat; omega
                    · have hl3z : ¬ (i : Int) + 1 + 1 < (m : Int) := by omega
                      have HQN : Hid ((Q.drop (i + 2)).head? ≠ some 45) := Lib.hid (by rw [HN1.out, List.getElem?_eq_none (by rw [HQM.out]; omega)]; simp)
                      go_wp2
                      go_roundw
                      case rel =>
                        exact ⟨false, i + 2, K ++ [45], _, rfl, by go_num, by omega, HPU.out, by simp, by simp; omega, fun r hr => (List.mem_append.1 hr).elim (HKR.out r) (fun y => by rw [List.mem_singleton.1 y]; omega), by have e := HPF.out; rw [pat_esc3 _ _ _ _ _ _ (by decide) HQN.out] at e; simpa using e⟩
                      case measure => show m - ((i : Int) + 1 + 1).toNat < m - (i : Int).toNat; omega
              · have k2z : ((d : Int) == 45) = false := by rw [beq_eq_false_iff_ne]; omega
                have k2p : ¬ (d : Int) = 45 := by omega
                have k2y : ((d : Int) != 45) = true := by rw [bne_iff_ne]; omega
                by_cases k3 : d = 94
                · subst k3
                  have hi1z : (0 : Int) ≤ (i : Int) + 1 := by omega
                  have hi1n : ((i : Int) + 1).toNat = i + 1 := by omega
                  have hx1 : w.heap.size + 1 < wr.heap.size := by have h1 := HP.out.hi; have h2 := HP.out.lt; omega
                  have hx2 : (Value.slice A K.length kc).ownBlock ≠ some (w.heap.size + 1) := fun e => by have h1 := (row_is HP.out.own e).1; have h2 := HP.out.lt; omega
                  as_aux_lemma =>
                    go_upto_region 19 with fail
                    go_cut [8] from 91 to 99 (fun sv wx => sv = .bool false ∧ ∃ lv', PS w R L (K ++ [94]) lv' nt wx)
                    case first =>
                      go_region_law (refine step_append_lies _ (by rfl) _ _ 33 (by rfl) (R + 1) 21 i0 (.int .i32 0) 1 4 Tryd.underlying33 hi hz0 hz1 hz2 rfl (by decide) (.slice A K.length kc) K.length (K.map rcell) (by rfl) (by first | exact HP.out.own.alloc _ | exact HP.out.drew.own.alloc _) ⟨wr.heap.size, 0, none⟩ 1 1 [.int .i32 94] (by rfl) rfl (by first | exact cell_one_new _ _ _ | (intro j u hu; simp at hu; obtain ⟨rfl, rfl⟩ := hu; simp)) (by intro u hu; simp at hu; subst hu; rfl) (by decide) (by unfold maxLen; omega) (by omega) (by have := HP.out.hi; simp; omega) (wr.heap.size + 1) (by simp) ?_; intro g2 cap2 w3 hown1 hgrow hat hlt2; obtain ⟨k1, k2, k3, k4⟩ := two_cells ((hgrow.block (w.heap.size + 1) (Nat.lt_of_lt_of_le hx1 (by simp)) (fun e => hx2 e.symm)).trans ((Below.heap_alloc wr _ _ hx1).trans HP.out.x)))
                      all_goals
                        go_wp2_with fail
                        go_meet
                        exact ⟨rfl, _, by first | exact HP.out.push 94 _ hown1 hgrow | exact HP.out.drew.push 94 _ hown1 hgrow | exact (HP.out.push 94 _ hown1 hgrow).drew⟩
                    case rest =>
                      obtain ⟨rfl, lv', hps2⟩ := hcut
                      obtain ⟨A2, kc2, rfl⟩ := hps2.shape
                      obtain ⟨d1, d2, d3, d4⟩ := two_cells hps2.x
                      obtain ⟨e1, e2, e3, e4⟩ := two_cells hps2.res
                      have HPU := Lib.hid hps2
                      have HN1 : Hid ((Q.drop (i + 2)).head? = Q[i + 2]?) := Lib.hid List.head?_drop
                      clear hps2
                      by_cases hl3 : i + 2 < m
                      · have hl3z : (i : Int) + 1 + 1 < (m : Int) := by omega
                        have hi2z : (0 : Int) ≤ (i : Int) + 1 + 1 := by omega
                        obtain ⟨d, hd⟩ : ∃ d, Q[i + 2]? = some d := ⟨_, List.getElem?_eq_getElem (by rw [HQM.out]; omega)⟩
                        have hcell3 : _ = some (Value.int .i32 (d : Int)) := HPU.out.row.cell (k := o + (i + 1 + 1)) (HQC.out (i + 2) d hd)
                        have HND := Lib.hid (HN1.out.trans hd)
                        clear hd HN1
                        by_cases hd45 : d = 45
                        · subst hd45
                          have HNO := Lib.hid (pat_esc2 tob nt (decide (i = 0)) sg K (d := 94) (Q.drop (i + 2)) HND.out)
                          go_wp2
                          (try simp only [Exit.inBlock, Exit.then])
                          refine bodyPost_ret (pat_res (n := 2) (by rfl) (by rfl) (set2 HPU.out.res)) rfl ?_
                          exact ⟨Or.inl ⟨⟨_, _, _, _, rfl⟩, by have e := HPF.out; rw [HNO.out] at e; exact e.symm⟩, (HPU.out.bel.setCell (Nat.le_refl _) _).setCell (Nat.le_refl _) _⟩
                        · have hd45z : ((d : Int) == 45) = false := by rw [beq_eq_false_iff_ne]; omega
                          have HQN : Hid ((Q.drop (i + 2)).head? ≠ some 45) := Lib.hid (by rw [HND.out]; simpa using hd45)
                          clear hd45
                          go_wp2
                          go_roundw
                          case rel =>
                            exact ⟨false, i + 2, K ++ [94], _, rfl, by go_num, by omega, HPU.out, by simp, by simp; omega, fun r hr => (List.mem_append.1 hr).elim (HKR.out r) (fun y => by rw [List.mem_singleton.1 y]; omega), by have e := HPF.out; rw [pat_esc3 _ _ _ _ _ _ (by decide) HQN.out] at e; simpa using e⟩
                          case measure => show m - ((i : Int) + 1 + 1).toNat < m - (i : Int).toNat; omega
                      · have hl3z : ¬ (i : Int) + 1 + 1 < (m : Int) := by omega
                        have HQN : Hid ((Q.drop (i + 2)).head? ≠ some 45) := Lib.hid (by rw [HN1.out, List.getElem?_eq_none (by rw [HQM.out]; omega)]; simp)
                        go_wp2
                        go_roundw
                        case rel =>
                          exact ⟨false, i + 2, K ++ [94], _, rfl, by go_num, by omega, HPU.out, by simp, by simp; omega, fun r hr => (List.mem_append.1 hr).elim (HKR.out r) (fun y => by rw [List.mem_singleton.1 y]; omega), by have e := HPF.out; rw [pat_esc3 _ _ _ _ _ _ (by decide) HQN.out] at e; simpa using e⟩
                        case measure => show m - ((i : Int) + 1 + 1).toNat < m - (i : Int).toNat; omega
                · have k3z : ((d : Int) == 94) = false := by rw [beq_eq_false_iff_ne]; omega
                  have k3p : ¬ (d : Int) = 94 := by omega
                  have k3y : ((d : Int) != 94) = true := by rw [bne_iff_ne]; omega
                  have HNO := Lib.hid (pat_esc1 tob nt (decide (i = 0)) sg K (Q.drop (i + 2)) (d := d) (by simp [spc, k1, k2, k3]))
                  clear k1 k2 k3
                  as_aux_lemma =>
                    go_wp2
                    (try simp only [Exit.inBlock, Exit.then])
                    refine bodyPost_ret (pat_res (n := 2) (by rfl) (by rfl) (set2 HP.out.res)) rfl ?_
                    exact ⟨Or.inl ⟨⟨_, _, _, _, rfl⟩, by have e := HPF.out; rw [HNO.out] at e; exact e.symm⟩, (HP.out.bel.setCell (Nat.le_refl _) _).setCell (Nat.le_refl _) _⟩
          · have hie : ((i : Int) + 1 == (m : Int)) = true := by rw [beq_iff_eq]; omega
            have HR0 : Hid (Q.drop (i + 1) = []) := Lib.hid (List.drop_eq_nil_of_le (by rw [HQM.out]; omega))
            rw [HR0.out] at HPF
            have HNO := Lib.hid (pat_esc0 tob nt (decide (i = 0)) sg K)
            as_aux_lemma =>
              go_wp2
              (try simp only [Exit.inBlock, Exit.then])
              refine bodyPost_ret (pat_res (n := 2) (by rfl) (by rfl) (set2 HP.out.res)) rfl ?_
              exact ⟨Or.inl ⟨⟨_, _, _, _, rfl⟩, by have e := HPF.out; rw [HNO.out] at e; exact e.symm⟩, (HP.out.bel.setCell (Nat.le_refl _) _).setCell (Nat.le_refl _) _⟩
        · have c92 : ((c : Int) == 92) = false := by rw [beq_eq_false_iff_ne]; omega
          by_cases h45 : c = 45
          · subst h45
            cases sg with
            | false =>
              have HNO : Hid (patF tob nt (45 :: Q.drop (i + 1)) (decide (i = 0)) false K = none) := Lib.hid (by
                cases Q.drop (i + 1) with
                | nil => exact pat_min0 tob nt (decide (i = 0)) false K
                | cons d q => exact pat_min1 tob nt (decide (i = 0)) false K q (Or.inl rfl))
              as_aux_lemma =>
                go_wp2
                (try simp only [Exit.inBlock, Exit.then])
                refine bodyPost_ret (pat_res (n := 2) (by rfl) (by rfl) (set2 HP.out.res)) rfl ?_
                exact ⟨Or.inl ⟨⟨_, _, _, _, rfl⟩, by have e := HPF.out; rw [HNO.out] at e; exact e.symm⟩, (HP.out.bel.setCell (Nat.le_refl _) _).setCell (Nat.le_refl _) _⟩
            | true =>
              by_cases hl2 : i + 1 < m
              · have hie : ((i : Int) + 1 == (m : Int)) = false := by rw [beq_eq_false_iff_ne]; omega
                have hl2z : (i : Int) + 1 < (m : Int) := by omega
                obtain ⟨d, hd⟩ : ∃ d, Q[i + 1]? = some d := ⟨_, List.getElem?_eq_getElem (by rw [HQM.out]; omega)⟩
                have hcell2 := HP.out.row.cell (HQC.out (i + 1) d hd)
                have HD1 : Hid (d ≤ 1114111) := Lib.hid (HQR.out d (List.mem_of_getElem? hd))
                have HDR2 : Hid (Q.drop (i + 1) = d :: Q.drop (i + 2)) := Lib.hid (by
                  obtain ⟨h1, h2⟩ := List.getElem?_eq_some_iff.1 hd
                  rw [← h2]
                  exact List.drop_eq_getElem_cons h1)
                rw [HDR2.out] at HPF
                clear hd
                by_cases k2 : d = 45
                · subst k2
                  have HNO := Lib.hid (pat_min1 tob nt (decide (i = 0)) true K (Q.drop (i + 2)) (d := 45) (Or.inr rfl))
                  as_aux_lemma =>
                    go_wp2
                    (try simp only [Exit.inBlock, Exit.then])
                    refine bodyPost_ret (pat_res (n := 2) (by rfl) (by rfl) (set2 HP.out.res)) rfl ?_
                    exact ⟨Or.inl ⟨⟨_, _, _, _, rfl⟩, by have e := HPF.out; rw [HNO.out] at e; exact e.symm⟩, (HP.out.bel.setCell (Nat.le_refl _) _).setCell (Nat.le_refl _) _⟩
                · have k2z : ((d : Int) == 45) = false := by rw [beq_eq_false_iff_ne]; omega
                  by_cases k1 : d = 92
                  · subst k1
                    have HNO := Lib.hid (pat_min1 tob nt (decide (i = 0)) true K (Q.drop (i + 2)) (d := 92) (Or.inr rfl))
                    as_aux_lemma =>
                      go_wp2
                      (try simp only [Exit.inBlock, Exit.then])
                      refine bodyPost_ret (pat_res (n := 2) (by rfl) (by rfl) (set2 HP.out.res)) rfl ?_
                      exact ⟨Or.inl ⟨⟨_, _, _, _, rfl⟩, by have e := HPF.out; rw [HNO.out] at e; exact e.symm⟩, (HP.out.bel.setCell (Nat.le_refl _) _).setCell (Nat.le_refl _) _⟩
                  · have k1z : ((d : Int) == 92) = false := by rw [beq_eq_false_iff_ne]; omega
                    by_cases k3 : d = 94
                    · subst k3
                      have HNO := Lib.hid (pat_min1 tob nt (decide (i = 0)) true K (Q.drop (i + 2)) (d := 94) (Or.inr rfl))
                      as_aux_lemma =>
                        go_wp2
                        (try simp only [Exit.inBlock, Exit.then])
                        refine bodyPost_ret (pat_res (n := 2) (by rfl) (by rfl) (set2 HP.out.res)) rfl ?_
                        exact ⟨Or.inl ⟨⟨_, _, _, _, rfl⟩, by have e := HPF.out; rw [HNO.out] at e; exact e.symm⟩, (HP.out.bel.setCell (Nat.le_refl _) _).setCell (Nat.le_refl _) _⟩
                    · have k3z : ((d : Int) == 94) = false := by rw [beq_eq_false_iff_ne]; omega
                      have hK1 : 1 ≤ K.length := HSG.out rfl
                      obtain ⟨g, rfl⟩ : ∃ g, A = some ⟨g, 0, none⟩ := by
                        rcases HP.out.own.2 with ⟨hv, h0⟩ | ⟨g, cap, cur, hv, _⟩
                        · omega
                        · injection hv with h1; exact ⟨g, h1⟩
                      obtain ⟨a0, ha0⟩ : ∃ a0, K[K.length - 1]? = some a0 := ⟨_, List.getElem?_eq_getElem (by omega)⟩
                      have hlast : K.getLastD 0 = a0 := by rw [List.getLastD_eq_getLast?, List.getLast?_eq_getElem?, ha0]; rfl
                      have hcella : wr.cell? ⟨g, K.length - 1, none⟩ = some (.int .i32 (a0 : Int)) := by
                        rw [HP.out.own.cellAt (K.length - 1) (by omega), List.getElem?_map, ha0]
                        rfl
                      have ha1 : a0 ≤ 1114111 := HKR.out a0 (List.mem_of_getElem? ha0)
                      have hd1 : d ≤ 1114111 := HD1.out
                      have hkz1 : (0 : Int) ≤ (K.length : Int) - 1 := by omega
                      have hkz2 : (K.length : Int) - 1 < (K.length : Int) := by omega
                      have hkz3 : ((K.length : Int) - 1).toNat = K.length - 1 := by omega
                      have hi1z : (0 : Int) ≤ (i : Int) + 1 := by omega
                      have hi1n : ((i : Int) + 1).toNat = i + 1 := by omega
                      have HSPC : Hid (¬ (true = false ∨ spc d = true)) := Lib.hid (by simp [spc, k1, k2, k3])
                      have HLST := Lib.hid hlast
                      clear ha0 hlast k1 k2 k3
                      as_aux_lemma =>
                        go_upto_region 25 with fail
                        go_cut [11, 12] from 151 to 163 (fun av bv wx => av = .int .i32 (a0 : Int) ∧ bv = .int .i32 (d : Int) ∧ PS w R L K (.slice (some ⟨g, 0, none⟩) K.length kc) nt wx)
                        case first =>
                          go_quiet (fail)
                          all_goals
                            go_wp2_with fail
                            go_meet
                            exact ⟨rfl, rfl, by first | exact HP.out | exact HP.out.drew | exact HP.out.drewN _⟩
                        case rest =>
                          obtain ⟨rfl, rfl, hps2⟩ := hcut
                          obtain ⟨d1, d2, d3, d4⟩ := two_cells hps2.x
                          obtain ⟨e1, e2, e3, e4⟩ := two_cells hps2.res
                          have HPU := Lib.hid hps2
                          clear hps2
                          by_cases q1 : (5000 : Int) < (a0 : Int) - (d : Int)
                          · have HNO := Lib.hid (pat_min2 tob nt (decide (i = 0)) true K (d := d) (Q.drop (i + 2)) (by rw [HLST.out]; exact Or.inl q1))
                            as_aux_lemma =>
                              go_wp2
                              (try simp only [Exit.inBlock, Exit.then])
                              refine bodyPost_ret (pat_res (n := 2) (by rfl) (by rfl) (set2 HPU.out.res)) rfl ?_
                              exact ⟨Or.inl ⟨⟨_, _, _, _, rfl⟩, by have e := HPF.out; rw [HNO.out] at e; exact e.symm⟩, (HPU.out.bel.setCell (Nat.le_refl _) _).setCell (Nat.le_refl _) _⟩
                          · by_cases q2 : (5000 : Int) < (d : Int) - (a0 : Int)
                            · have HNO := Lib.hid (pat_min2 tob nt (decide (i = 0)) true K (d := d) (Q.drop (i + 2)) (by rw [HLST.out]; exact Or.inr q2))
                              as_aux_lemma =>
                                go_wp2
                                (try simp only [Exit.inBlock, Exit.then])
                                refine bodyPost_ret (pat_res (n := 2) (by rfl) (by rfl) (set2 HPU.out.res)) rfl ?_
                                exact ⟨Or.inl ⟨⟨_, _, _, _, rfl⟩, by have e := HPF.out; rw [HNO.out] at e; exact e.symm⟩, (HPU.out.bel.setCell (Nat.le_refl _) _).setCell (Nat.le_refl _) _⟩
                            · have hmin := pat_min3 tob nt (decide (i = 0)) true K (d := d) (Q.drop (i + 2)) HSPC.out (by rw [HLST.out]; rintro (y | y); exact q1 y; exact q2 y)
                              rw [HLST.out, dst_start] at hmin
                              obtain ⟨up, hup⟩ : ∃ up, decide (a0 < d) = up := ⟨_, rfl⟩
                              rw [hup] at hmin
                              obtain ⟨T, hT9⟩ : ∃ T, rngF up (dst up a0 d) a0 K = T := ⟨_, rfl⟩
                              rw [hT9] at hmin
                              have HNE := Lib.hid hmin
                              have HT9 := Lib.hid hT9
                              have HU1 : Hid (up = true → a0 ≤ d) := Lib.hid (fun y => by rw [y] at hup; have := of_decide_eq_true hup; omega)
                              have HU2 : Hid (up = false → d ≤ a0) := Lib.hid (fun y => by rw [y] at hup; have := of_decide_eq_false hup; omega)
                              have HD5 : Hid (dst up a0 d ≤ 5000) := Lib.hid (by unfold dst; cases up <;> simp <;> omega)
                              clear hmin hT9 hup
                              go_wp2
                              go_loopw [11] (fun av wq => ∃ (cur : Nat) (K' : List Nat) (lv' : Value), av = .int .i32 (cur : Int) ∧ PS w R L K' lv' nt wq ∧ (up = true → cur ≤ d) ∧ (up = false → d ≤ cur) ∧ cur ≤ 1114111 ∧ K'.length + dst up cur d ≤ K.length + 5000 ∧ K.length ≤ K'.length ∧ (∀ r ∈ K', r ≤ 1114111) ∧ rngF up (dst up cur d) cur K' = T) (fun av _ => match av with | .int _ x => dst up x.toNat d | _ => 0)
                              case atStart => exact ⟨a0, K, _, rfl, HPU.out, HU1.out, HU2.out, ha1, by have := HD5.out; omega, Nat.le_refl _, HKR.out, HT9.out⟩
                              case round =>
                                obtain ⟨cur, K', lv', rfl, hps9, hu1, hu2, hc1, hkl, hkk, hkr9, hrg⟩ := hrel
                                obtain ⟨A', kc', rfl⟩ := hps9.shape
                                obtain ⟨d1, d2, d3, d4⟩ := two_cells hps9.x
                                obtain ⟨e1, e2, e3, e4⟩ := two_cells hps9.res
                                have HQ := Lib.hid hps9
                                have HR := Lib.hid hrg
                                have HKR2 := Lib.hid hkr9
                                clear hps9 hrg hkr9 HPU HT9 HU1 HU2 HD5
                                by_cases hcd : cur = d
                                · skip
                                  have HFIN : Hid (patF tob nt (45 :: d :: Q.drop (i + 2)) (decide (i = 0)) true K = if (Q.drop (i + 2)).head? = some 45 then none else patF tob nt (Q.drop (i + 2)) false false K') := Lib.hid (by
                                    have e := HR.out
                                    rw [hcd, dst_zero, rngF] at e
                                    rw [HNE.out, ← e])
                                  have hcdz : ((cur : Int) == (d : Int)) = true := by rw [beq_iff_eq]; omega
                                  have hcdy : ((cur : Int) != (d : Int)) = false := by rw [bne_eq_false_iff_eq]; omega
                                  have HN1 : Hid ((Q.drop (i + 2)).head? = Q[i + 2]?) := Lib.hid List.head?_drop
                                  have hdl : K'.length ≤ K.length + 5000 := by omega
                                  clear hcd
                                  by_cases hl3 : i + 2 < m
                                  · have hl3z : (i : Int) + 1 + 1 < (m : Int) := by omega
                                    have hi2z : (0 : Int) ≤ (i : Int) + 1 + 1 := by omega
                                    obtain ⟨d9, hd9⟩ : ∃ d9, Q[i + 2]? = some d9 := ⟨_, List.getElem?_eq_getElem (by rw [HQM.out]; omega)⟩
                                    have hcell3 : _ = some (Value.int .i32 (d9 : Int)) := HQ.out.row.cell (k := o + (i + 1 + 1)) (HQC.out (i + 2) d9 hd9)
                                    have HND := Lib.hid (HN1.out.trans hd9)
                                    clear hd9 HN1
                                    by_cases hd45 : d9 = 45
                                    · subst hd45
                                      have HNO : Hid (patF tob nt (45 :: d :: Q.drop (i + 2)) (decide (i = 0)) true K = none) := Lib.hid (by rw [HFIN.out, if_pos HND.out])
                                      as_aux_lemma =>
                                        go_wp2
                                        (try simp only [Exit.inBlock, Exit.then])
                                        refine bodyPost_ret (pat_res (n := 2) (by rfl) (by rfl) (set2 HQ.out.res)) rfl ?_
                                        exact ⟨Or.inl ⟨⟨_, _, _, _, rfl⟩, by have e := HPF.out; rw [HNO.out] at e; exact e.symm⟩, (HQ.out.bel.setCell (Nat.le_refl _) _).setCell (Nat.le_refl _) _⟩
                                    · have hd45z : ((d9 : Int) == 45) = false := by rw [beq_eq_false_iff_ne]; omega
                                      have HQN : Hid ((Q.drop (i + 2)).head? ≠ some 45) := Lib.hid (by rw [HND.out]; simpa using hd45)
                                      clear hd45
                                      as_aux_lemma =>
                                        go_wp2
                                        go_roundw
                                        case rel =>
                                          exact ⟨false, i + 2, K', _, rfl, by go_num, by omega, HQ.out, by simp, by omega, HKR2.out, by have e := HPF.out; rw [HFIN.out, if_neg HQN.out] at e; simpa using e⟩
                                        case measure => show m - ((i : Int) + 1 + 1).toNat < m - (i : Int).toNat; omega
                                  · have hl3z : ¬ (i : Int) + 1 + 1 < (m : Int) := by omega
                                    have HQN : Hid ((Q.drop (i + 2)).head? ≠ some 45) := Lib.hid (by rw [HN1.out, List.getElem?_eq_none (by rw [HQM.out]; omega)]; simp)
                                    as_aux_lemma =>
                                      go_wp2
                                      go_roundw
                                      case rel =>
                                        exact ⟨false, i + 2, K', _, rfl, by go_num, by omega, HQ.out, by simp, by omega, HKR2.out, by have e := HPF.out; rw [HFIN.out, if_neg HQN.out] at e; simpa using e⟩
                                      case measure => show m - ((i : Int) + 1 + 1).toNat < m - (i : Int).toNat; omega
                                · cases up with
                                  | true =>
                                    have hlt : cur < d := by have := hu1 rfl; omega
                                    have hltz : (cur : Int) < (d : Int) := by omega
                                    have hcdz : ((cur : Int) == (d : Int)) = false := by rw [beq_eq_false_iff_ne]; omega
                                    have hcdy : ((cur : Int) != (d : Int)) = true := by rw [bne_iff_ne]; omega
                                    obtain ⟨nx, hnx⟩ : ∃ nx, cur + 1 = nx := ⟨_, rfl⟩
                                    have hnxz : (cur : Int) + 1 = (nx : Int) := by omega
                                    have hnx1 : nx ≤ 1114111 := by omega
                                    have HNX := Lib.hid hnx
                                    have HDL : Hid (dst true cur d = dst true nx d + 1) := Lib.hid (by unfold dst; simp; omega)
                                    clear hcd
                                    by_cases s1 : 55296 ≤ nx
                                    · have s1z : (55296 : Int) ≤ (nx : Int) := by omega
                                      by_cases s2 : nx ≤ 57343
                                      · have s2z : (nx : Int) ≤ 57343 := by omega
                                        have HNO : Hid (patF tob nt (45 :: d :: Q.drop (i + 2)) (decide (i = 0)) true K = none) := Lib.hid (by
                                          have e := HR.out
                                          rw [rng_up_bad K' hlt (by omega) (by omega)] at e
                                          rw [HNE.out, ← e])
                                        as_aux_lemma =>
                                          go_wp2
                                          (try simp only [Exit.inBlock, Exit.then])
                                          refine bodyPost_ret (pat_res (n := 2) (by rfl) (by rfl) (set2 HQ.out.res)) rfl ?_
                                          exact ⟨Or.inl ⟨⟨_, _, _, _, rfl⟩, by have e := HPF.out; rw [HNO.out] at e; exact e.symm⟩, (HQ.out.bel.setCell (Nat.le_refl _) _).setCell (Nat.le_refl _) _⟩
                                      · have s2z : ¬ (nx : Int) ≤ 57343 := by omega
                                        have HGO : Hid (rngF true (dst true nx d) nx (K' ++ [nx]) = T) := Lib.hid (by
                                          have e := HR.out
                                          rw [rng_up K' hlt (by omega)] at e
                                          rw [← HNX.out]
                                          exact e)
                                        as_aux_lemma =>
                                          go_wp2_with (at_builtin; refine wpList_append_own_at _ rfl _ _ 33 rfl (R + 1) 21 i0 (.int .i32 0) 1 4 Tryd.underlying33 hi hz0 hz1 hz2 rfl (by decide) (.slice A' K'.length kc') K'.length (K'.map rcell) rfl (HQ.out.own.alloc _) ⟨wr.heap.size, 0, none⟩ 1 1 [.int .i32 (nx : Int)] rfl rfl (cell_one_new _ _ _) (by intro u hu; simp at hu; subst hu; rfl) (by unfold maxLen; omega) (by omega) (by have := HQ.out.hi; simp; omega) ?_)
                                          intro v' w2 hown2 hgr _ _
                                          obtain ⟨g', cap', hv⟩ : ∃ g' cap', v' = .slice (some ⟨g', 0, none⟩) (K'.length + 1) cap' := by
                                            rcases hown2.2 with ⟨_, hn⟩ | ⟨g', cap', cur, hv, _⟩
                                            · omega
                                            · exact ⟨g', cap', hv⟩
                                          subst hv
                                          have HPU := Lib.hid (HQ.out.push (nx) _ hown2 hgr)
                                          obtain ⟨q1, q2, q3, q4⟩ := HQ.out.mid _ hgr
                                          obtain ⟨d1, d2, d3, d4⟩ := two_cells (q2.trans HQ.out.x)
                                          obtain ⟨e1, e2, e3, e4⟩ := two_cells (q1.trans HQ.out.res)
                                          have HRW := Lib.hid (HQ.out.row.keep q3)
                                          clear q1 q2 q3 q4 hown2 hgr
                                          go_wp2
                                          go_roundw
                                          case rel =>
                                            exact ⟨nx, K' ++ [nx], _, rfl, HPU.out, by (intro _; omega), by (intro y; cases y), by omega, by have h1 := HDL.out; rw [List.length_append]; simp only [List.length_singleton]; omega, by simp; omega, fun r hr => (List.mem_append.1 hr).elim (HKR2.out r) (fun y => by rw [List.mem_singleton.1 y]; omega), HGO.out⟩
                                          case measure => show dst true ((nx : Int)).toNat d < dst true ((cur : Int)).toNat d; have h1 := HDL.out; simp only [Int.toNat_natCast]; omega
                                    · have s1z : ¬ (55296 : Int) ≤ (nx : Int) := by omega
                                      have HGO : Hid (rngF true (dst true nx d) nx (K' ++ [nx]) = T) := Lib.hid (by
                                        have e := HR.out
                                        rw [rng_up K' hlt (by omega)] at e
                                        rw [← HNX.out]
                                        exact e)
                                      as_aux_lemma =>
                                        go_wp2_with (at_builtin; refine wpList_append_own_at _ rfl _ _ 33 rfl (R + 1) 21 i0 (.int .i32 0) 1 4 Tryd.underlying33 hi hz0 hz1 hz2 rfl (by decide) (.slice A' K'.length kc') K'.length (K'.map rcell) rfl (HQ.out.own.alloc _) ⟨wr.heap.size, 0, none⟩ 1 1 [.int .i32 (nx : Int)] rfl rfl (cell_one_new _ _ _) (by intro u hu; simp at hu; subst hu; rfl) (by unfold maxLen; omega) (by omega) (by have := HQ.out.hi; simp; omega) ?_)
                                        intro v' w2 hown2 hgr _ _
                                        obtain ⟨g', cap', hv⟩ : ∃ g' cap', v' = .slice (some ⟨g', 0, none⟩) (K'.length + 1) cap' := by
                                          rcases hown2.2 with ⟨_, hn⟩ | ⟨g', cap', cur, hv, _⟩
                                          · omega
                                          · exact ⟨g', cap', hv⟩
                                        subst hv
                                        have HPU := Lib.hid (HQ.out.push (nx) _ hown2 hgr)
                                        obtain ⟨q1, q2, q3, q4⟩ := HQ.out.mid _ hgr
                                        obtain ⟨d1, d2, d3, d4⟩ := two_cells (q2.trans HQ.out.x)
                                        obtain ⟨e1, e2, e3, e4⟩ := two_cells (q1.trans HQ.out.res)
                                        have HRW := Lib.hid (HQ.out.row.keep q3)
                                        clear q1 q2 q3 q4 hown2 hgr
                                        go_wp2
                                        go_roundw
                                        case rel =>
                                          exact ⟨nx, K' ++ [nx], _, rfl, HPU.out, by (intro _; omega), by (intro y; cases y), by omega, by have h1 := HDL.out; rw [List.length_append]; simp only [List.length_singleton]; omega, by simp; omega, fun r hr => (List.mem_append.1 hr).elim (HKR2.out r) (fun y => by rw [List.mem_singleton.1 y]; omega), HGO.out⟩
                                        case measure => show dst true ((nx : Int)).toNat d < dst true ((cur : Int)).toNat d; have h1 := HDL.out; simp only [Int.toNat_natCast]; omega
                                  | false =>
                                    have hlt : d < cur := by have := hu2 rfl; omega
                                    have hltz : ¬ (cur : Int) < (d : Int) := by omega
                                    have hcdz : ((cur : Int) == (d : Int)) = false := by rw [beq_eq_false_iff_ne]; omega
                                    have hcdy : ((cur : Int) != (d : Int)) = true := by rw [bne_iff_ne]; omega
                                    obtain ⟨nx, hnx⟩ : ∃ nx, cur - 1 = nx := ⟨_, rfl⟩
                                    have hnxz : (cur : Int) - 1 = (nx : Int) := by omega
                                    have hnx1 : nx ≤ 1114111 := by omega
                                    have HNX := Lib.hid hnx
                                    have HDL : Hid (dst false cur d = dst false nx d + 1) := Lib.hid (by unfold dst; simp; omega)
                                    clear hcd
                                    by_cases s1 : 55296 ≤ nx
                                    · have s1z : (55296 : Int) ≤ (nx : Int) := by omega
                                      by_cases s2 : nx ≤ 57343
                                      · have s2z : (nx : Int) ≤ 57343 := by omega
                                        have HNO : Hid (patF tob nt (45 :: d :: Q.drop (i + 2)) (decide (i = 0)) true K = none) := Lib.hid (by
                                          have e := HR.out
                                          rw [rng_dn_bad K' hlt (by omega) (by omega)] at e
                                          rw [HNE.out, ← e])
                                        as_aux_lemma =>
                                          go_wp2
                                          (try simp only [Exit.inBlock, Exit.then])
                                          refine bodyPost_ret (pat_res (n := 2) (by rfl) (by rfl) (set2 HQ.out.res)) rfl ?_
                                          exact ⟨Or.inl ⟨⟨_, _, _, _, rfl⟩, by have e := HPF.out; rw [HNO.out] at e; exact e.symm⟩, (HQ.out.bel.setCell (Nat.le_refl _) _).setCell (Nat.le_refl _) _⟩
                                      · have s2z : ¬ (nx : Int) ≤ 57343 := by omega
                                        have HGO : Hid (rngF false (dst false nx d) nx (K' ++ [nx]) = T) := Lib.hid (by
                                          have e := HR.out
                                          rw [rng_dn K' hlt (by omega)] at e
                                          rw [← HNX.out]
                                          exact e)
                                        as_aux_lemma =>
                                          go_wp2_with (at_builtin; refine wpList_append_own_at _ rfl _ _ 33 rfl (R + 1) 21 i0 (.int .i32 0) 1 4 Tryd.underlying33 hi hz0 hz1 hz2 rfl (by decide) (.slice A' K'.length kc') K'.length (K'.map rcell) rfl (HQ.out.own.alloc _) ⟨wr.heap.size, 0, none⟩ 1 1 [.int .i32 (nx : Int)] rfl rfl (cell_one_new _ _ _) (by intro u hu; simp at hu; subst hu; rfl) (by unfold maxLen; omega) (by omega) (by have := HQ.out.hi; simp; omega) ?_)
                                          intro v' w2 hown2 hgr _ _
                                          obtain ⟨g', cap', hv⟩ : ∃ g' cap', v' = .slice (some ⟨g', 0, none⟩) (K'.length + 1) cap' := by
                                            rcases hown2.2 with ⟨_, hn⟩ | ⟨g', cap', cur, hv, _⟩
                                            · omega
                                            · exact ⟨g', cap', hv⟩
                                          subst hv
                                          have HPU := Lib.hid (HQ.out.push (nx) _ hown2 hgr)
                                          obtain ⟨q1, q2, q3, q4⟩ := HQ.out.mid _ hgr
                                          obtain ⟨d1, d2, d3, d4⟩ := two_cells (q2.trans HQ.out.x)
                                          obtain ⟨e1, e2, e3, e4⟩ := two_cells (q1.trans HQ.out.res)
                                          have HRW := Lib.hid (HQ.out.row.keep q3)
                                          clear q1 q2 q3 q4 hown2 hgr
                                          go_wp2
                                          go_roundw
                                          case rel =>
                                            exact ⟨nx, K' ++ [nx], _, rfl, HPU.out, by (intro y; cases y), by (intro _; omega), by omega, by have h1 := HDL.out; rw [List.length_append]; simp only [List.length_singleton]; omega, by simp; omega, fun r hr => (List.mem_append.1 hr).elim (HKR2.out r) (fun y => by rw [List.mem_singleton.1 y]; omega), HGO.out⟩
                                          case measure => show dst false ((nx : Int)).toNat d < dst false ((cur : Int)).toNat d; have h1 := HDL.out; simp only [Int.toNat_natCast]; omega
                                    · have s1z : ¬ (55296 : Int) ≤ (nx : Int) := by omega
                                      have HGO : Hid (rngF false (dst false nx d) nx (K' ++ [nx]) = T) := Lib.hid (by
                                        have e := HR.out
                                        rw [rng_dn K' hlt (by omega)] at e
                                        rw [← HNX.out]
                                        exact e)
                                      as_aux_lemma =>
                                        go_wp2_with (at_builtin; refine wpList_append_own_at _ rfl _ _ 33 rfl (R + 1) 21 i0 (.int .i32 0) 1 4 Tryd.underlying33 hi hz0 hz1 hz2 rfl (by decide) (.slice A' K'.length kc') K'.length (K'.map rcell) rfl (HQ.out.own.alloc _) ⟨wr.heap.size, 0, none⟩ 1 1 [.int .i32 (nx : Int)] rfl rfl (cell_one_new _ _ _) (by intro u hu; simp at hu; subst hu; rfl) (by unfold maxLen; omega) (by omega) (by have := HQ.out.hi; simp; omega) ?_)
                                        intro v' w2 hown2 hgr _ _
                                        obtain ⟨g', cap', hv⟩ : ∃ g' cap', v' = .slice (some ⟨g', 0, none⟩) (K'.length + 1) cap' := by
                                          rcases hown2.2 with ⟨_, hn⟩ | ⟨g', cap', cur, hv, _⟩
                                          · omega
                                          · exact ⟨g', cap', hv⟩
                                        subst hv
                                        have HPU := Lib.hid (HQ.out.push (nx) _ hown2 hgr)
                                        obtain ⟨q1, q2, q3, q4⟩ := HQ.out.mid _ hgr
                                        obtain ⟨d1, d2, d3, d4⟩ := two_cells (q2.trans HQ.out.x)
                                        obtain ⟨e1, e2, e3, e4⟩ := two_cells (q1.trans HQ.out.res)
                                        have HRW := Lib.hid (HQ.out.row.keep q3)
                                        clear q1 q2 q3 q4 hown2 hgr
                                        go_wp2
                                        go_roundw
                                        case rel =>
                                          exact ⟨nx, K' ++ [nx], _, rfl, HPU.out, by (intro y; cases y), by (intro _; omega), by omega, by have h1 := HDL.out; rw [List.length_append]; simp only [List.length_singleton]; omega, by simp; omega, fun r hr => (List.mem_append.1 hr).elim (HKR2.out r) (fun y => by rw [List.mem_singleton.1 y]; omega), HGO.out⟩
                                        case measure => show dst false ((nx : Int)).toNat d < dst false ((cur : Int)).toNat d; have h1 := HDL.out; simp only [Int.toNat_natCast]; omega
              · have hie : ((i : Int) + 1 == (m : Int)) = true := by rw [beq_iff_eq]; omega
                have HR0 : Hid (Q.drop (i + 1) = []) := Lib.hid (List.drop_eq_nil_of_le (by rw [HQM.out]; omega))
                rw [HR0.out] at HPF
                have HNO := Lib.hid (pat_min0 tob nt (decide (i = 0)) true K)
                as_aux_lemma =>
                  go_wp2
                  (try simp only [Exit.inBlock, Exit.then])
                  refine bodyPost_ret (pat_res (n := 2) (by rfl) (by rfl) (set2 HP.out.res)) rfl ?_
                  exact ⟨Or.inl ⟨⟨_, _, _, _, rfl⟩, by have e := HPF.out; rw [HNO.out] at e; exact e.symm⟩, (HP.out.bel.setCell (Nat.le_refl _) _).setCell (Nat.le_refl _) _⟩
          · have c45 : ((c : Int) == 45) = false := by rw [beq_eq_false_iff_ne]; omega
            by_cases h94 : c = 94
            · subst h94
              by_cases hi0 : i = 0
              · subst hi0
                rw [Nat.add_zero] at hcell
                have HF : Hid (decide (0 = 0) = true) := Lib.hid (by simp)
                cases nt with
                | false =>
                  have HE := Lib.hid (fun K => pat_one tob false true sg K (Q.drop (0 + 1)) (c := 94) (by decide) (by decide) (fun y => y.2.1.elim (fun z => by cases z) (fun z => by cases z)))
                  as_aux_lemma =>
                    go_wp2_with (at_builtin; refine wpList_append_own_at _ rfl _ _ 33 rfl (R + 1) 21 i0 (.int .i32 0) 1 4 Tryd.underlying33 hi hz0 hz1 hz2 rfl (by decide) (.slice A K.length kc) K.length (K.map rcell) rfl (HP.out.own.alloc _) ⟨wr.heap.size, 0, none⟩ 1 1 [.int .i32 ((94 : Nat) : Int)] rfl rfl (cell_one_new _ _ _) (by intro u hu; simp at hu; subst hu; rfl) (by unfold maxLen; omega) (by omega) (by have := HP.out.hi; simp; omega) ?_)
                    intro v' w2 hown2 hgr _ _
                    obtain ⟨g', cap', hv⟩ : ∃ g' cap', v' = .slice (some ⟨g', 0, none⟩) (K.length + 1) cap' := by
                      rcases hown2.2 with ⟨_, hn⟩ | ⟨g', cap', cur, hv, _⟩
                      · omega
                      · exact ⟨g', cap', hv⟩
                    subst hv
                    have HPU := Lib.hid (HP.out.push (94) _ hown2 hgr)
                    obtain ⟨q1, q2, q3, q4⟩ := HP.out.mid _ hgr
                    obtain ⟨d1, d2, d3, d4⟩ := two_cells (q2.trans HP.out.x)
                    obtain ⟨e1, e2, e3, e4⟩ := two_cells (q1.trans HP.out.res)
                    have HRW := Lib.hid (HP.out.row.keep q3)
                    clear q1 q2 q3 q4 hown2 hgr
                    go_wp2
                    go_roundw
                    case rel =>
                      exact ⟨true, 0 + 1, K ++ [94], _, rfl, by first | go_num | (have hi1 : i = 0 := (by simpa using HF.out); rw [hi1]; rfl), by omega, HPU.out, fun _ => by simp, by simp; omega, fun r hr => (List.mem_append.1 hr).elim (HKR.out r) (fun y => by rw [List.mem_singleton.1 y]; exact HC1.out), by have e := HPF.out; (try simp only [decide_true] at e); rw [HE.out] at e; simpa using e⟩
                    case measure => show m - (1 : Int).toNat < m - ((0 : Nat) : Int).toNat; omega
                | true =>
                  cases tob with
                  | true =>
                    have HE := Lib.hid (fun f K => pat_one true true f sg K (Q.drop (0 + 1)) (c := 94) (by decide) (by decide) (fun y => absurd y.2.2 (by decide)))
                    as_aux_lemma =>
                      go_wp2_with (at_builtin; refine wpList_append_own_at _ rfl _ _ 33 rfl (R + 1) 21 i0 (.int .i32 0) 1 4 Tryd.underlying33 hi hz0 hz1 hz2 rfl (by decide) (.slice A K.length kc) K.length (K.map rcell) rfl (HP.out.own.alloc _) ⟨wr.heap.size, 0, none⟩ 1 1 [.int .i32 ((94 : Nat) : Int)] rfl rfl (cell_one_new _ _ _) (by intro u hu; simp at hu; subst hu; rfl) (by unfold maxLen; omega) (by omega) (by have := HP.out.hi; simp; omega) ?_)
                      intro v' w2 hown2 hgr _ _
                      obtain ⟨g', cap', hv⟩ : ∃ g' cap', v' = .slice (some ⟨g', 0, none⟩) (K.length + 1) cap' := by
                        rcases hown2.2 with ⟨_, hn⟩ | ⟨g', cap', cur, hv, _⟩
                        · omega
                        · exact ⟨g', cap', hv⟩
                      subst hv
                      have HPU := Lib.hid (HP.out.push (94) _ hown2 hgr)
                      obtain ⟨q1, q2, q3, q4⟩ := HP.out.mid _ hgr
                      obtain ⟨d1, d2, d3, d4⟩ := two_cells (q2.trans HP.out.x)
                      obtain ⟨e1, e2, e3, e4⟩ := two_cells (q1.trans HP.out.res)
                      have HRW := Lib.hid (HP.out.row.keep q3)
                      clear q1 q2 q3 q4 hown2 hgr
                      go_wp2
                      go_roundw
                      case rel =>
                        exact ⟨true, 0 + 1, K ++ [94], _, rfl, by first | go_num | (have hi1 : i = 0 := (by simpa using HF.out); rw [hi1]; rfl), by omega, HPU.out, fun _ => by simp, by simp; omega, fun r hr => (List.mem_append.1 hr).elim (HKR.out r) (fun y => by rw [List.mem_singleton.1 y]; exact HC1.out), by have e := HPF.out; (try simp only [decide_true] at e); rw [HE.out] at e; simpa using e⟩
                      case measure => show m - (1 : Int).toNat < m - ((0 : Nat) : Int).toNat; omega
                  | false =>
                    have HN1 : Hid ((Q.drop (0 + 1)).head? = Q[0 + 1]?) := Lib.hid List.head?_drop
                    by_cases hl2 : 0 + 1 < m
                    · have hl2z : (1 : Int) < (m : Int) := by omega
                      obtain ⟨d, hd⟩ : ∃ d, Q[0 + 1]? = some d := ⟨_, List.getElem?_eq_getElem (by rw [HQM.out]; omega)⟩
                      have HDL := Lib.hid (HQC.out (0 + 1) d hd)
                      have HND := Lib.hid (HN1.out.trans hd)
                      clear hd HN1
                      by_cases hd45 : d = 45
                      · subst hd45
                        as_aux_lemma =>
                          go_wp2_with (at_builtin; refine wpList_append_own_at _ rfl _ _ 33 rfl (R + 1) 21 i0 (.int .i32 0) 1 4 Tryd.underlying33 hi hz0 hz1 hz2 rfl (by decide) (.slice A K.length kc) K.length (K.map rcell) rfl (HP.out.own.alloc _) ⟨wr.heap.size, 0, none⟩ 1 1 [.int .i32 ((94 : Nat) : Int)] rfl rfl (cell_one_new _ _ _) (by intro u hu; simp at hu; subst hu; rfl) (by unfold maxLen; omega) (by omega) (by have := HP.out.hi; simp; omega) ?_)
                          intro v' w2 hown2 hgr _ _
                          obtain ⟨g', cap', hv⟩ : ∃ g' cap', v' = .slice (some ⟨g', 0, none⟩) (K.length + 1) cap' := by
                            rcases hown2.2 with ⟨_, hn⟩ | ⟨g', cap', cur, hv, _⟩
                            · omega
                            · exact ⟨g', cap', hv⟩
                          subst hv
                          have HPU := Lib.hid (HP.out.push (94) _ hown2 hgr)
                          obtain ⟨q1, q2, q3, q4⟩ := HP.out.mid _ hgr
                          obtain ⟨d1, d2, d3, d4⟩ := two_cells (q2.trans HP.out.x)
                          obtain ⟨e1, e2, e3, e4⟩ := two_cells (q1.trans HP.out.res)
                          have HRW := Lib.hid (HP.out.row.keep q3)
                          clear q1 q2 q3 q4 hown2 hgr
                          have hcell2 := HRW.out.cell HDL.out
                          go_wp2
                          (try simp only [Exit.inBlock, Exit.then])
                          refine bodyPost_ret (pat_res (n := 2) (by rfl) (by rfl) (set2 HPU.out.res)) rfl ?_
                          exact ⟨Or.inl ⟨⟨_, _, _, _, rfl⟩, by have e := HPF.out; rw [pat_hat0 _ _ _ _ _ _ ⟨Or.inr (by simp), by simp⟩ HND.out] at e; exact e.symm⟩, (HPU.out.bel.setCell (Nat.le_refl _) _).setCell (Nat.le_refl _) _⟩
                      · have hd45z : ((d : Int) == 45) = false := by rw [beq_eq_false_iff_ne]; omega
                        have HQN : Hid ((Q.drop (0 + 1)).head? ≠ some 45) := Lib.hid (by rw [HND.out]; simpa using hd45)
                        clear hd45
                        as_aux_lemma =>
                          go_wp2_with (at_builtin; refine wpList_append_own_at _ rfl _ _ 33 rfl (R + 1) 21 i0 (.int .i32 0) 1 4 Tryd.underlying33 hi hz0 hz1 hz2 rfl (by decide) (.slice A K.length kc) K.length (K.map rcell) rfl (HP.out.own.alloc _) ⟨wr.heap.size, 0, none⟩ 1 1 [.int .i32 ((94 : Nat) : Int)] rfl rfl (cell_one_new _ _ _) (by intro u hu; simp at hu; subst hu; rfl) (by unfold maxLen; omega) (by omega) (by have := HP.out.hi; simp; omega) ?_)
                          intro v' w2 hown2 hgr _ _
                          obtain ⟨g', cap', hv⟩ : ∃ g' cap', v' = .slice (some ⟨g', 0, none⟩) (K.length + 1) cap' := by
                            rcases hown2.2 with ⟨_, hn⟩ | ⟨g', cap', cur, hv, _⟩
                            · omega
                            · exact ⟨g', cap', hv⟩
                          subst hv
                          have HPU := Lib.hid (HP.out.push (94) _ hown2 hgr)
                          obtain ⟨q1, q2, q3, q4⟩ := HP.out.mid _ hgr
                          obtain ⟨d1, d2, d3, d4⟩ := two_cells (q2.trans HP.out.x)
                          obtain ⟨e1, e2, e3, e4⟩ := two_cells (q1.trans HP.out.res)
                          have HRW := Lib.hid (HP.out.row.keep q3)
                          clear q1 q2 q3 q4 hown2 hgr
                          have hcell2 := HRW.out.cell HDL.out
                          go_wp2
                          go_roundw
                          case rel =>
                            exact ⟨false, 0 + 1, K ++ [94], _, rfl, by first | go_num | (have hi1 : i = 0 := (by simpa using HF.out); rw [hi1]; rfl), by omega, HPU.out, by simp, by simp; omega, fun r hr => (List.mem_append.1 hr).elim (HKR.out r) (fun y => by rw [List.mem_singleton.1 y]; omega), by have e := HPF.out; rw [pat_hat1 _ _ _ _ _ _ ⟨Or.inr (by simp), by simp⟩ HQN.out] at e; simpa using e⟩
                          case measure => show m - (1 : Int).toNat < m - ((0 : Nat) : Int).toNat; omega
                    · have hl2z : ¬ (1 : Int) < (m : Int) := by omega
                      have HQN : Hid ((Q.drop (0 + 1)).head? ≠ some 45) := Lib.hid (by rw [HN1.out, List.getElem?_eq_none (by rw [HQM.out]; omega)]; simp)
                      as_aux_lemma =>
                        go_wp2_with (at_builtin; refine wpList_append_own_at _ rfl _ _ 33 rfl (R + 1) 21 i0 (.int .i32 0) 1 4 Tryd.underlying33 hi hz0 hz1 hz2 rfl (by decide) (.slice A K.length kc) K.length (K.map rcell) rfl (HP.out.own.alloc _) ⟨wr.heap.size, 0, none⟩ 1 1 [.int .i32 ((94 : Nat) : Int)] rfl rfl (cell_one_new _ _ _) (by intro u hu; simp at hu; subst hu; rfl) (by unfold maxLen; omega) (by omega) (by have := HP.out.hi; simp; omega) ?_)
                        intro v' w2 hown2 hgr _ _
                        obtain ⟨g', cap', hv⟩ : ∃ g' cap', v' = .slice (some ⟨g', 0, none⟩) (K.length + 1) cap' := by
                          rcases hown2.2 with ⟨_, hn⟩ | ⟨g', cap', cur, hv, _⟩
                          · omega
                          · exact ⟨g', cap', hv⟩
                        subst hv
                        have HPU := Lib.hid (HP.out.push (94) _ hown2 hgr)
                        obtain ⟨q1, q2, q3, q4⟩ := HP.out.mid _ hgr
                        obtain ⟨d1, d2, d3, d4⟩ := two_cells (q2.trans HP.out.x)
                        obtain ⟨e1, e2, e3, e4⟩ := two_cells (q1.trans HP.out.res)
                        have HRW := Lib.hid (HP.out.row.keep q3)
                        clear q1 q2 q3 q4 hown2 hgr
                        go_wp2
                        go_roundw
                        case rel =>
                          exact ⟨false, 0 + 1, K ++ [94], _, rfl, by first | go_num | (have hi1 : i = 0 := (by simpa using HF.out); rw [hi1]; rfl), by omega, HPU.out, by simp, by simp; omega, fun r hr => (List.mem_append.1 hr).elim (HKR.out r) (fun y => by rw [List.mem_singleton.1 y]; omega), by have e := HPF.out; rw [pat_hat1 _ _ _ _ _ _ ⟨Or.inr (by simp), by simp⟩ HQN.out] at e; simpa using e⟩
                        case measure => show m - (1 : Int).toNat < m - ((0 : Nat) : Int).toNat; omega
              · have hi0z : (0 : Int) < (i : Int) := by omega
                have HF : Hid (decide (i = 0) = false) := Lib.hid (by simp [hi0])
                clear hi0
                cases tob with
                | true =>
                  have HE := Lib.hid (fun f K => pat_one true nt f sg K (Q.drop (i + 1)) (c := 94) (by decide) (by decide) (fun y => absurd y.2.2 (by decide)))
                  as_aux_lemma =>
                    go_wp2_with (at_builtin; refine wpList_append_own_at _ rfl _ _ 33 rfl (R + 1) 21 i0 (.int .i32 0) 1 4 Tryd.underlying33 hi hz0 hz1 hz2 rfl (by decide) (.slice A K.length kc) K.length (K.map rcell) rfl (HP.out.own.alloc _) ⟨wr.heap.size, 0, none⟩ 1 1 [.int .i32 ((94 : Nat) : Int)] rfl rfl (cell_one_new _ _ _) (by intro u hu; simp at hu; subst hu; rfl) (by unfold maxLen; omega) (by omega) (by have := HP.out.hi; simp; omega) ?_)
                    intro v' w2 hown2 hgr _ _
                    obtain ⟨g', cap', hv⟩ : ∃ g' cap', v' = .slice (some ⟨g', 0, none⟩) (K.length + 1) cap' := by
                      rcases hown2.2 with ⟨_, hn⟩ | ⟨g', cap', cur, hv, _⟩
                      · omega
                      · exact ⟨g', cap', hv⟩
                    subst hv
                    have HPU := Lib.hid (HP.out.push (94) _ hown2 hgr)
                    obtain ⟨q1, q2, q3, q4⟩ := HP.out.mid _ hgr
                    obtain ⟨d1, d2, d3, d4⟩ := two_cells (q2.trans HP.out.x)
                    obtain ⟨e1, e2, e3, e4⟩ := two_cells (q1.trans HP.out.res)
                    have HRW := Lib.hid (HP.out.row.keep q3)
                    clear q1 q2 q3 q4 hown2 hgr
                    go_wp2
                    go_roundw
                    case rel =>
                      exact ⟨true, i + 1, K ++ [94], _, rfl, by first | go_num | (have hi1 : i = 0 := (by simpa using HF.out); rw [hi1]; rfl), by omega, HPU.out, fun _ => by simp, by simp; omega, fun r hr => (List.mem_append.1 hr).elim (HKR.out r) (fun y => by rw [List.mem_singleton.1 y]; exact HC1.out), by have e := HPF.out; (try simp only [decide_true] at e); rw [HE.out] at e; simpa using e⟩
                    case measure => show m - ((i : Int) + 1).toNat < m - (i : Int).toNat; omega
                | false =>
                  have HN1 : Hid ((Q.drop (i + 1)).head? = Q[i + 1]?) := Lib.hid List.head?_drop
                  by_cases hl2 : i + 1 < m
                  · have hl2z : (i : Int) + 1 < (m : Int) := by omega
                    obtain ⟨d, hd⟩ : ∃ d, Q[i + 1]? = some d := ⟨_, List.getElem?_eq_getElem (by rw [HQM.out]; omega)⟩
                    have HDL := Lib.hid (HQC.out (i + 1) d hd)
                    have HND := Lib.hid (HN1.out.trans hd)
                    clear hd HN1
                    by_cases hd45 : d = 45
                    · subst hd45
                      as_aux_lemma =>
                        go_wp2_with (at_builtin; refine wpList_append_own_at _ rfl _ _ 33 rfl (R + 1) 21 i0 (.int .i32 0) 1 4 Tryd.underlying33 hi hz0 hz1 hz2 rfl (by decide) (.slice A K.length kc) K.length (K.map rcell) rfl (HP.out.own.alloc _) ⟨wr.heap.size, 0, none⟩ 1 1 [.int .i32 ((94 : Nat) : Int)] rfl rfl (cell_one_new _ _ _) (by intro u hu; simp at hu; subst hu; rfl) (by unfold maxLen; omega) (by omega) (by have := HP.out.hi; simp; omega) ?_)
                        intro v' w2 hown2 hgr _ _
                        obtain ⟨g', cap', hv⟩ : ∃ g' cap', v' = .slice (some ⟨g', 0, none⟩) (K.length + 1) cap' := by
                          rcases hown2.2 with ⟨_, hn⟩ | ⟨g', cap', cur, hv, _⟩
                          · omega
                          · exact ⟨g', cap', hv⟩
                        subst hv
                        have HPU := Lib.hid (HP.out.push (94) _ hown2 hgr)
                        obtain ⟨q1, q2, q3, q4⟩ := HP.out.mid _ hgr
                        obtain ⟨d1, d2, d3, d4⟩ := two_cells (q2.trans HP.out.x)
                        obtain ⟨e1, e2, e3, e4⟩ := two_cells (q1.trans HP.out.res)
                        have HRW := Lib.hid (HP.out.row.keep q3)
                        clear q1 q2 q3 q4 hown2 hgr
                        have hcell2 := HRW.out.cell HDL.out
                        go_wp2
                        (try simp only [Exit.inBlock, Exit.then])
                        refine bodyPost_ret (pat_res (n := 2) (by rfl) (by rfl) (set2 HPU.out.res)) rfl ?_
                        exact ⟨Or.inl ⟨⟨_, _, _, _, rfl⟩, by have e := HPF.out; rw [pat_hat0 _ _ _ _ _ _ ⟨Or.inl HF.out, by simp⟩ HND.out] at e; exact e.symm⟩, (HPU.out.bel.setCell (Nat.le_refl _) _).setCell (Nat.le_refl _) _⟩
                    · have hd45z : ((d : Int) == 45) = false := by rw [beq_eq_false_iff_ne]; omega
                      have HQN : Hid ((Q.drop (i + 1)).head? ≠ some 45) := Lib.hid (by rw [HND.out]; simpa using hd45)
                      clear hd45
                      as_aux_lemma =>
                        go_wp2_with (at_builtin; refine wpList_append_own_at _ rfl _ _ 33 rfl (R + 1) 21 i0 (.int .i32 0) 1 4 Tryd.underlying33 hi hz0 hz1 hz2 rfl (by decide) (.slice A K.length kc) K.length (K.map rcell) rfl (HP.out.own.alloc _) ⟨wr.heap.size, 0, none⟩ 1 1 [.int .i32 ((94 : Nat) : Int)] rfl rfl (cell_one_new _ _ _) (by intro u hu; simp at hu; subst hu; rfl) (by unfold maxLen; omega) (by omega) (by have := HP.out.hi; simp; omega) ?_)
                        intro v' w2 hown2 hgr _ _
                        obtain ⟨g', cap', hv⟩ : ∃ g' cap', v' = .slice (some ⟨g', 0, none⟩) (K.length + 1) cap' := by
                          rcases hown2.2 with ⟨_, hn⟩ | ⟨g', cap', cur, hv, _⟩
                          · omega
                          · exact ⟨g', cap', hv⟩
                        subst hv
                        have HPU := Lib.hid (HP.out.push (94) _ hown2 hgr)
                        obtain ⟨q1, q2, q3, q4⟩ := HP.out.mid _ hgr
                        obtain ⟨d1, d2, d3, d4⟩ := two_cells (q2.trans HP.out.x)
                        obtain ⟨e1, e2, e3, e4⟩ := two_cells (q1.trans HP.out.res)
                        have HRW := Lib.hid (HP.out.row.keep q3)
                        clear q1 q2 q3 q4 hown2 hgr
                        have hcell2 := HRW.out.cell HDL.out
                        go_wp2
                        go_roundw
                        case rel =>
                          exact ⟨false, i + 1, K ++ [94], _, rfl, by first | go_num | (have hi1 : i = 0 := (by simpa using HF.out); rw [hi1]; rfl), by omega, HPU.out, by simp, by simp; omega, fun r hr => (List.mem_append.1 hr).elim (HKR.out r) (fun y => by rw [List.mem_singleton.1 y]; omega), by have e := HPF.out; rw [pat_hat1 _ _ _ _ _ _ ⟨Or.inl HF.out, by simp⟩ HQN.out] at e; simpa using e⟩
                        case measure => show m - ((i : Int) + 1).toNat < m - (i : Int).toNat; omega
                  · have hl2z : ¬ (i : Int) + 1 < (m : Int) := by omega
                    have HQN : Hid ((Q.drop (i + 1)).head? ≠ some 45) := Lib.hid (by rw [HN1.out, List.getElem?_eq_none (by rw [HQM.out]; omega)]; simp)
                    as_aux_lemma =>
                      go_wp2_with (at_builtin; refine wpList_append_own_at _ rfl _ _ 33 rfl (R + 1) 21 i0 (.int .i32 0) 1 4 Tryd.underlying33 hi hz0 hz1 hz2 rfl (by decide) (.slice A K.length kc) K.length (K.map rcell) rfl (HP.out.own.alloc _) ⟨wr.heap.size, 0, none⟩ 1 1 [.int .i32 ((94 : Nat) : Int)] rfl rfl (cell_one_new _ _ _) (by intro u hu; simp at hu; subst hu; rfl) (by unfold maxLen; omega) (by omega) (by have := HP.out.hi; simp; omega) ?_)
                      intro v' w2 hown2 hgr _ _
                      obtain ⟨g', cap', hv⟩ : ∃ g' cap', v' = .slice (some ⟨g', 0, none⟩) (K.length + 1) cap' := by
                        rcases hown2.2 with ⟨_, hn⟩ | ⟨g', cap', cur, hv, _⟩
                        · omega
                        · exact ⟨g', cap', hv⟩
                      subst hv
                      have HPU := Lib.hid (HP.out.push (94) _ hown2 hgr)
                      obtain ⟨q1, q2, q3, q4⟩ := HP.out.mid _ hgr
                      obtain ⟨d1, d2, d3, d4⟩ := two_cells (q2.trans HP.out.x)
                      obtain ⟨e1, e2, e3, e4⟩ := two_cells (q1.trans HP.out.res)
                      have HRW := Lib.hid (HP.out.row.keep q3)
                      clear q1 q2 q3 q4 hown2 hgr
                      go_wp2
                      go_roundw
                      case rel =>
                        exact ⟨false, i + 1, K ++ [94], _, rfl, by first | go_num | (have hi1 : i = 0 := (by simpa using HF.out); rw [hi1]; rfl), by omega, HPU.out, by simp, by simp; omega, fun r hr => (List.mem_append.1 hr).elim (HKR.out r) (fun y => by rw [List.mem_singleton.1 y]; omega), by have e := HPF.out; rw [pat_hat1 _ _ _ _ _ _ ⟨Or.inl HF.out, by simp⟩ HQN.out] at e; simpa using e⟩
                      case measure => show m - ((i : Int) + 1).toNat < m - (i : Int).toNat; omega
            · have c94 : ((c : Int) == 94) = false := by rw [beq_eq_false_iff_ne]; omega
              have HE := Lib.hid (fun f K => pat_one tob nt f sg K (Q.drop (i + 1)) h92 h45 (fun y => h94 y.1))
              clear h92 h45 h94
              as_aux_lemma =>
                go_wp2_with (at_builtin; refine wpList_append_own_at _ rfl _ _ 33 rfl (R + 1) 21 i0 (.int .i32 0) 1 4 Tryd.underlying33 hi hz0 hz1 hz2 rfl (by decide) (.slice A K.length kc) K.length (K.map rcell) rfl (HP.out.own.alloc _) ⟨wr.heap.size, 0, none⟩ 1 1 [.int .i32 (c : Int)] rfl rfl (cell_one_new _ _ _) (by intro u hu; simp at hu; subst hu; rfl) (by unfold maxLen; omega) (by omega) (by have := HP.out.hi; simp; omega) ?_)
                intro v' w2 hown2 hgr _ _
                obtain ⟨g', cap', hv⟩ : ∃ g' cap', v' = .slice (some ⟨g', 0, none⟩) (K.length + 1) cap' := by
                  rcases hown2.2 with ⟨_, hn⟩ | ⟨g', cap', cur, hv, _⟩
                  · omega
                  · exact ⟨g', cap', hv⟩
                subst hv
                have HPU := Lib.hid (HP.out.push (c) _ hown2 hgr)
                obtain ⟨q1, q2, q3, q4⟩ := HP.out.mid _ hgr
                obtain ⟨d1, d2, d3, d4⟩ := two_cells (q2.trans HP.out.x)
                obtain ⟨e1, e2, e3, e4⟩ := two_cells (q1.trans HP.out.res)
                have HRW := Lib.hid (HP.out.row.keep q3)
                clear q1 q2 q3 q4 hown2 hgr
                go_wp2
                go_roundw
                case rel =>
                  exact ⟨true, i + 1, K ++ [c], _, rfl, by first | go_num | (have hi1 : i = 0 := (by simpa using HF.out); rw [hi1]; rfl), by omega, HPU.out, fun _ => by simp, by simp; omega, fun r hr => (List.mem_append.1 hr).elim (HKR.out r) (fun y => by rw [List.mem_singleton.1 y]; exact HC1.out), by have e := HPF.out; (try simp only [decide_true] at e); rw [HE.out] at e; simpa using e⟩
                case measure => show m - ((i : Int) + 1).toNat < m - (i : Int).toNat; omega
      · have hltz : ¬ (i : Int) < (m : Int) := by omega
        have HEND : Hid (Q.drop i = []) := Lib.hid (List.drop_eq_nil_of_le (by rw [HQM.out]; omega))
        go_wp2
        (try simp only [Exit.inBlock, Exit.then])
        refine bodyPost_ret (pat_res (n := 1) (by rfl) (by rfl) (set2 HP.out.res)) rfl ?_
        refine ⟨Or.inr ⟨K, nt, A, kc, rfl, ?_, ?_⟩, (HP.out.bel.setCell (Nat.le_refl _) _).setCell (Nat.le_refl _) _⟩
        · have e := HPF.out
          rw [HEND.out] at e
          exact e.symm
        · have hlt2 := HP.out.lt
          refine ⟨R + 1, by omega, row_keep HP.out.own fun g hg => ?_⟩
          have hg1 := (row_is HP.out.own hg).1
          rw [Below.heap_setCell _ _ _ _ (by show g ≠ w.heap.size; omega), Below.heap_setCell _ _ _ _ (by show g ≠ w.heap.size; omega)]
end Go.Proofs.YtdgaehkfdaacjaaDoor
