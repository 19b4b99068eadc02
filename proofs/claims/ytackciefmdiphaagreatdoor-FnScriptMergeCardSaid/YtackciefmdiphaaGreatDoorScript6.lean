/- PropScript of one step that merges a text. -/
import Derived.Test.YtackciefmdiphaaGreatDoorStep6
import Derived.Test.YtackciefmdiphaaGreatDoorProps
set_option linter.unusedVariables false
namespace Go.Proofs.YtackciefmdiphaaGreatDoor
open Go.RowKit Plain Go.Maps

theorem infoPA : (Tryz.prog.info? 95).map (fun i => (i.zero, i.size, i.bytes)) = some (some (.agg #[.string ⟨#[]⟩, .int .i64 0, .bool false, .bool false, .slice none 0 0]), 5, 56) := by kernel_rfl
theorem cell_five_new (w : World) (a b c d e : Value) (t : TypeId) : ∀ j u, ([a, b, c, d, e] : List Value)[j]? = some u → (w.alloc (.cells #[a, b, c, d, e] t)).cell? ((⟨w.heap.size, 0, none⟩ : Addr).add j) = some u := by
  intro j u hu
  rw [add_at, Nat.zero_add, World.cell?_alloc_new]
  simpa using hu
def ScPost (p : PSt) (w : World) (e : Ending) (w' : World) : Prop := ∃ v1 v2, e = .returned (.tuple #[v1, v2]) ∧ Below w.heap.size w w' ∧ PRow w.heap.size v2 (p.ks.map (dataOf p (fun _ => ⟨#[]⟩))) w'
theorem pq_all {w : World} {k : Nat} {a b c d e f g : Value} {t : TypeId} (h : w.heap[k]? = some (.cells #[a, b, c, d, e, f, g] t (0, 0))) :
    w.cell? ⟨k, 0, none⟩ = some a ∧ w.cell? ⟨k, 1, none⟩ = some b ∧ w.cell? ⟨k, 2, none⟩ = some c ∧ w.frozen? ⟨k, 0, none⟩ = false ∧ w.frozen? ⟨k, 1, none⟩ = false ∧ w.frozen? ⟨k, 2, none⟩ = false := by
  simp [World.cell?, World.frozen?, h]
theorem pq_set {w : World} {k : Nat} {a b c d e f g a' b' c' : Value} {t : TypeId} (h : w.heap[k]? = some (.cells #[a, b, c, d, e, f, g] t (0, 0))) :
    (((w.setCell ⟨k, 0, none⟩ a').setCell ⟨k, 1, none⟩ b').setCell ⟨k, 2, none⟩ c').heap[k]? = some (.cells #[a', b', c', d, e, f, g] t (0, 0)) := by
  simp [World.setCell, Array.getElem?_modify, h]
attribute [local go_sem ↓] Go.wp_at_zero Go.wp_at_succ
set_option maxHeartbeats 8000000 in
set_option maxRecDepth 100000 in
theorem script6_any (s : ByteArray) (g cap : Nat) (w : World) (hs : s.size ≤ 100000) (hTb : Tabs w) (o : Option PSt) (ho : parL (lexL (unbom s)) [] pst0 = o) (x0 : w.cell? ⟨g, 0, none⟩ = some (.int .i64 6)) (x1 : w.cell? ⟨g, 1, none⟩ = some (.string ⟨#[]⟩)) (x2 : w.cell? ⟨g, 2, none⟩ = some (.string ⟨#[]⟩)) (x3 : w.cell? ⟨g, 3, none⟩ = some (.string s)) :
    Calls Tryz.prog 29 #[.string ⟨#[36, 123]⟩, .string ⟨#[125]⟩, .bool true, .slice (some ⟨g, 0, none⟩) 1 cap] w (ScPost (o.getD pst0) w) := by
  unfold ScPost
  obtain ⟨i0, hi, hz0, hz1, hz2⟩ := info_parts infoStr
  obtain ⟨j0, hj, hy0, hy1, hy2⟩ := info_parts infoPr
  obtain ⟨a0, ha, ha0, ha1, ha2⟩ := info_parts infoPA
  have HNP := Lib.hid (newPQ_any w)
  have hgl := Lib.lt_of_cell x0
  have hbd : PBd 1000000 1000000 (o.getD pst0) := by
    cases o with
    | none => exact pbd0 _ _
    | some p => exact parL_small (unbom s) p (Nat.le_trans (unbom_size s) hs) ho
  obtain ⟨p, hp⟩ : ∃ p, o.getD pst0 = p := ⟨_, rfl⟩
  rw [hp] at hbd ⊢
  have HP := Lib.hid hp
  have HST : Hid (∀ y pb mb mc lv, Below w.heap.size w y → TG w.heap.size pb mb mc 0 0 [] (.map []) (.map []) lv y → Calls Tryz.prog 49 #[.pointer (some ⟨pb, 0, none⟩), .agg #[.int .i64 6, .string ⟨#[]⟩, .string ⟨#[]⟩, .string s]] y fun e w' => ∃ f : Bool, e = .returned (.agg #[.string ⟨#[]⟩, .int .i64 0, .bool false, .bool f, .slice none 0 0]) ∧ Below w.heap.size y w' ∧ ∃ n nc DC lv', n ≤ 1000000 ∧ LP w.heap.size pb mb mc n nc p DC lv' true w') := Lib.hid (fun y pb mb mc lv hy hT => (step6_any w.heap.size pb mb mc lv s y hT hs (hTb.below hy) o ho).mono (by
    rintro e w' ⟨⟨f, rfl⟩, h2, h3⟩
    refine ⟨f, rfl, h2, ?_⟩
    cases o with
    | none =>
      obtain ⟨lv', h4⟩ := h3
      have hpp : pst0 = p := HP.out
      exact ⟨0, 0, .map [], lv', by omega, hpp ▸ h4⟩
    | some q =>
      obtain ⟨nc, DC, lv', h4⟩ := h3
      have hpp : q = p := HP.out
      subst hpp
      exact ⟨_, nc, DC, lv', hbd.dn, h4⟩))
  have hsz : ∀ k ∈ p.ks, k.size ≤ 10000000 := fun k hk => by have := hbd.keys k hk; omega
  have hcf : ∀ k l, p.cf k = some l → l.length ≤ 10000000 := fun k l hl => by have := hbd.cn k l hl; omega
  have hks0 : p.ks.length ≤ 10000000 := by have := hbd.kn; omega
  have X : ∀ y, Below w.heap.size w y → y.cell? ⟨g, 0, none⟩ = some (.int .i64 6) ∧ y.cell? ⟨g, 1, none⟩ = some (.string ⟨#[]⟩) ∧ y.cell? ⟨g, 2, none⟩ = some (.string ⟨#[]⟩) ∧ y.cell? ⟨g, 3, none⟩ = some (.string s) := fun y hy => ⟨(hy.cell (Lib.lt_of_cell x0)).trans x0, (hy.cell (Lib.lt_of_cell x1)).trans x1, (hy.cell (Lib.lt_of_cell x2)).trans x2, (hy.cell (Lib.lt_of_cell x3)).trans x3⟩
  have HXX := Lib.hid X
  clear hs hTb ho hp X x0 x1 x2 x3
  go_enter Tryz.func29, Tryz.ntmps29
  go_wp2_with (go_at_call 48; (with_reducible refine HNP.out.mono ?_); rintro e w1 ⟨pb, mb, mc, lv, rfl, hpq, hb1⟩; have HPQ := Lib.hid hpq; have HB1 := Lib.hid hb1; obtain ⟨c0, c1, c2, f0, f1, f2⟩ := pq_all hpq.blk; clear hpq hb1; dsimp only)
  have hblk2 := pq_set (a' := .string ⟨#[36, 123]⟩) (b' := .string ⟨#[125]⟩) (c' := .bool true) HPQ.out.blk
  have hk2 : ∀ j, j ≠ pb → (((w1.setCell ⟨pb, 0, none⟩ (.string ⟨#[36, 123]⟩)).setCell ⟨pb, 1, none⟩ (.string ⟨#[125]⟩)).setCell ⟨pb, 2, none⟩ (.bool true)).heap[j]? = w1.heap[j]? := fun j hj => by
    rw [Below.heap_setCell _ _ _ _ hj, Below.heap_setCell _ _ _ _ hj, Below.heap_setCell _ _ _ _ hj]
  have hbw2 : Below w.heap.size w (((w1.setCell ⟨pb, 0, none⟩ (.string ⟨#[36, 123]⟩)).setCell ⟨pb, 1, none⟩ (.string ⟨#[125]⟩)).setCell ⟨pb, 2, none⟩ (.bool true)) := ((HB1.out.setCell (p := ⟨pb, 0, none⟩) HPQ.out.lo.1 _).setCell (p := ⟨pb, 1, none⟩) HPQ.out.lo.1 _).setCell (p := ⟨pb, 2, none⟩) HPQ.out.lo.1 _
  obtain ⟨W2, hW2⟩ : ∃ W, (((w1.setCell ⟨pb, 0, none⟩ (.string ⟨#[36, 123]⟩)).setCell ⟨pb, 1, none⟩ (.string ⟨#[125]⟩)).setCell ⟨pb, 2, none⟩ (.bool true)) = W := ⟨_, rfl⟩
  rw [hW2] at hblk2 hk2 hbw2 ⊢
  have hnem : ∀ {j : Nat}, (∃ es c, w1.heap[j]? = some (.map es c)) → j ≠ pb := fun h e => by
    obtain ⟨es, c, h1⟩ := h
    rw [e, HPQ.out.blk] at h1
    injection h1 with h1
    exact Obj.noConfusion h1
  have hTG : TG w.heap.size pb mb mc 0 0 [] (.map []) (.map []) lv W2 := ⟨hblk2, mp_keep HPQ.out.mp (hk2 mb (hnem (mp_is HPQ.out.mp))), mpc_keep HPQ.out.cp (hk2 mc (hnem (mpc_is HPQ.out.cp))), row_keep HPQ.out.row (fun g hg => hk2 g (fun e => by
    obtain ⟨cs, h1⟩ := row_cells HPQ.out.row hg
    rw [e, HPQ.out.blk] at h1
    injection h1 with h1
    injection h1 with _ h1
    exact absurd h1 (by decide))), HPQ.out.lo⟩
  have HBW2 := Lib.hid hbw2
  obtain ⟨x0, x1, x2, x3⟩ := HXX.out W2 hbw2
  obtain ⟨W3, hW3⟩ : ∃ W, W2.alloc (.cells #[.int .i64 6, .string ⟨#[]⟩, .string ⟨#[]⟩, .string s] 58) = W := ⟨_, rfl⟩
  have hb23 : Below W2.heap.size W2 W3 := hW3 ▸ (Below.refl _ W2).alloc (Nat.le_refl _) _
  have hblk3 : W3.heap[W2.heap.size]? = some (.cells #[.int .i64 6, .string ⟨#[]⟩, .string ⟨#[]⟩, .string s] 58 (0, 0)) := hW3 ▸ heap_alloc_new W2 _
  have HS6 := Lib.hid (HST.out W3 pb mb mc lv (bthen hbw2 hb23) (hTG.below hb23))
  have HB3 : Hid (Below w.heap.size w W3) := Lib.hid (bthen hbw2 hb23)
  have HW3 := Lib.hid hW3
  have y0 : W3.cell? ⟨W2.heap.size, 0, none⟩ = some (.int .i64 6) := by simp [World.cell?, hblk3]
  have y1 : W3.cell? ⟨W2.heap.size, 1, none⟩ = some (.string ⟨#[]⟩) := by simp [World.cell?, hblk3]
  have y2 : W3.cell? ⟨W2.heap.size, 2, none⟩ = some (.string ⟨#[]⟩) := by simp [World.cell?, hblk3]
  have y3 : W3.cell? ⟨W2.heap.size, 3, none⟩ = some (.string s) := by simp [World.cell?, hblk3]
  clear hblk2 hk2 hnem hTG hW2 hb23 hblk3 hW3 hbw2 c0 c1 c2 f0 f1 f2 HNP HST HXX HPQ
  refine wp_loop_rounds 2 ?_
  rw [rounds_succ]
  go_wp2_with (first
    | (rw [HW3.out])
    | (go_at_call 49; (with_reducible refine HS6.out.mono ?_); rintro e w4 ⟨f, rfl, hb4, n, nc, DC, lv', hn, hlp⟩; have HB4 := Lib.hid (HB3.out.trans hb4); have HLP := Lib.hid hlp; clear hb4 hlp; dsimp only)
    | (at_builtin; refine wpList_append_own_at _ rfl _ _ 54 rfl w.heap.size 95 a0 (.agg #[.string ⟨#[]⟩, .int .i64 0, .bool false, .bool false, .slice none 0 0]) 5 56 Tryz.underlying54 ha ha0 ha1 ha2 rfl (by decide) (.slice none 0 0) 0 [] rfl (World.ownsRow_nil _ _ _ _) ⟨w4.heap.size, 0, none⟩ 1 1 [.string ⟨#[]⟩, .int .i64 0, .bool false, .bool f, .slice none 0 0] rfl rfl (cell_five_new _ _ _ _ _ _ _) (by intro u hu; simp at hu; rcases hu with rfl | rfl | rfl | rfl | rfl <;> rfl) (by unfold maxLen; omega) (by omega) (by have := HB4.out.size; simp; omega) ?_; intro v' w6 hown6 hgr6 _ _; obtain ⟨g9, cap9, rfl⟩ := slq_one hown6; have hb46 : Below w4.heap.size w4 w6 := ((Below.refl _ w4).alloc (Nat.le_refl _) _).grown hgr6 (by simp) (fun g hg => by cases hg); have HB6 := Lib.hid (bthen HB4.out hb46); have HL6 := Lib.hid (HLP.out.below hb46); clear hown6 hgr6 hb46))
  clear x0 x1 x2 x3 y0 y1 y2 y3 HW3 HS6 HB3 HBW2 hgl
  obtain ⟨c2, c3, c5, c6, _⟩ := seven_cells HL6.out.blk
  have HMP := Lib.hid (map_any pb mb n p.D w6 c3 HL6.out.mp (by omega))
  clear c2 c3 c5 c6
  rw [rounds_succ]
  go_wp2_with (first
    | (go_at_call 50; (with_reducible refine HMP.out.mono ?_); rintro e w7 ⟨M, rfl, hM1, hM2, hb7⟩; have HM := Lib.hid hM2; have HB7 := Lib.hid hb7; have HL7 := Lib.hid (HL6.out.below hb7); have HKY := Lib.hid (keysN_any w.heap.size pb p.ks.length lv' (p.ks.map Value.string) w7 (seven_cells HL7.out.blk).2.2.1 HL7.out.row hks0 (by intro v hv; obtain ⟨x, _, rfl⟩ := List.mem_map.1 hv; rfl)); clear hM2 hb7; dsimp only)
    | (go_at_call 51; (with_reducible refine HKY.out.mono ?_); rintro e w2 ⟨G, rfl, hG, hb2⟩; have HGR := Lib.hid hG; have HB2 := Lib.hid hb2; clear hG hb2; dsimp only))
  obtain ⟨N, hN⟩ : ∃ N, p.ks.length = N := ⟨_, rfl⟩
  have HN := Lib.hid hN
  rw [hN] at HGR hks0 ⊢
  have HB02 : Hid (Below w.heap.size w w2) := Lib.hid (bthen (bthen HB6.out HB7.out) HB2.out)
  have HL2 := Lib.hid (HL7.out.below HB2.out)
  have HM2 : Hid (MpS w2 M _ p.D) := Lib.hid (mp_keep HM.out (HB2.out.block M (map_lt (mp_is HM.out))))
  clear hN HMP HKY HM HL7 HL6 HB7 HB6 HLP HB4
  go_loopg [15, 49] N (fun g' v15 v49 wr => ∃ i : Nat, v49 = .int .i64 (i : Int) ∧ i ≤ N ∧ g' = N - i ∧ Hid (PRow w2.heap.size v15 ((p.ks.take i).map (dataOf p (fun _ => ⟨#[]⟩))) wr) ∧ Hid (Below w2.heap.size w2 wr))
  case atStart => exact ⟨0, rfl, Nat.zero_le _, rfl, Lib.hid (PRow.nil _ _), Lib.hid (Below.refl _ _)⟩
  case round =>
    obtain ⟨i, rfl, hin, rfl, HR, HB⟩ := hrel
    by_cases hlt : i < N
    · have hiz : (i : Int) < (N : Int) := by omega
      obtain ⟨k, hx⟩ : ∃ x, p.ks[i]? = some x := ⟨_, List.getElem?_eq_getElem (by have := HN.out; omega)⟩
      have x0 : wr.cell? ⟨G, i, none⟩ = some (.string k) := by
        have hrw := row_keep HGR.out (fun g hg => HB.out.block g (row_lt HGR.out hg).2)
        rw [hrw.cellAt i (by omega)]
        simp [hx]
      have hks' : k.size ≤ 10000000 := hsz k (List.mem_of_getElem? hx)
      have HX := Lib.hid hx
      clear hx
      go_wp2
      have HM3 : Hid (MpS wr M _ p.D) := Lib.hid (mp_keep HM2.out ((bthen HB.out (Below.refl wr.heap.size wr)).block M (map_lt (mp_is HM2.out))))
      have HL3 := Lib.hid (HL2.out.below (bthen HB.out (Below.refl wr.heap.size wr)))
      obtain ⟨cv, hcv, hgc⟩ := com_got HL3.out k (by omega)
      obtain ⟨R, hR⟩ : ∃ R, rawOf p.D k = R := ⟨_, rfl⟩
      have hkm : k.size ≤ maxLen := by unfold maxLen; omega
      have HLK : Hid (∀ y, Below wr.heap.size wr y → (Instr.lookup 83 (.map (some M)) (.string k) false).run Tryz.prog y = .ok (.string R) y) := Lib.hid (fun y hy => hR ▸ look_run (mp_keep HM3.out (hy.block M (map_lt (mp_is HM3.out)))) hkm)
      have HLK2 : Hid (∀ y, Below w2.heap.size w2 y → (Instr.lookup 83 (.map (some M)) (.string k) false).run Tryz.prog y = .ok (.string R) y) := Lib.hid (fun y hy => hR ▸ look_run (mp_keep HM2.out (hy.block M (map_lt (mp_is HM2.out)))) hkm)
      have HCV := Lib.hid hcv
      have HGC := Lib.hid hgc
      clear hcv hgc
      have HD3 : Hid (Below wr.heap.size wr wr.drew) := Lib.hid (Below.drew (Below.refl _ _))
      have HDA : Hid (∀ o, Below wr.heap.size wr (wr.alloc o).drew) := Lib.hid (fun o => Below.drew ((Below.refl _ _).alloc (Nat.le_refl _) o))
      have HNW : Hid (((wr.alloc (.cells #[] 9)).drew).heap[wr.heap.size]? = some (.cells #[] 9 (0, 0))) := Lib.hid (heap_alloc_new wr (.cells #[] 9))
      have HCL : Hid (((p.cf k).getD []).length ≤ 10000000) := Lib.hid (by
        cases hc : p.cf k with
        | none => simp
        | some l => exact hcf k l hc)
      have HCVK : Hid (∀ y, Below wr.heap.size wr y → y.ownsRow w.heap.size 9 1 cv ((p.cf k).getD []).length (((p.cf k).getD []).map Value.string)) := Lib.hid (fun y hy => row_keep HCV.out (fun g hg => hy.block g (row_lt HCV.out hg).2))
      have h23 : w2.heap.size ≤ wr.heap.size := Nat.le_trans HB.out.size (Below.refl wr.heap.size wr).size
      obtain ⟨us, hus1, hus2, hus3⟩ := HR.out.below (Below.refl wr.heap.size wr)
      have HU1 := Lib.hid hus1
      have HU2 := Lib.hid hus2
      have HU3 := Lib.hid hus3
      obtain ⟨C, hC⟩ : ∃ C, (p.cf k).getD [] = C := ⟨_, rfl⟩
      rw [hC] at HCVK HCL
      have hdd : dataOf p (fun _ => ⟨#[]⟩) k = ⟨k, R, ⟨#[]⟩, C⟩ := by unfold dataOf; rw [hR, hC]
      have HDD := Lib.hid hdd
      have hln : ((p.ks.take i).map (dataOf p (fun _ => ⟨#[]⟩))).length = i := by rw [List.length_map, List.length_take, HN.out]; omega
      rw [hln] at HU2
      clear hus1 hus2 hus3 hC hdd hR hln
      go_region_held3 (fun y => (Instr.lookup 83 (.map (some M)) (.string k) false).run Tryz.prog y = .ok (.string R) y)
        (first | exact HLK.out _ HD3.out | exact HLK.out _ (HDA.out _) | exact HLK.out _ HY1.out | exact HLK.out _ (HY1.out.alloc HY1.out.size _) | exact HLK2.out _ HY2.out)
        (first
          | (go_at_call 52; (with_reducible refine (HGC.out _ (by first | exact HD3.out | exact HDA.out _)).mono ?_); rintro e y9 ⟨rfl, rfl⟩; dsimp only)
          | (refine step_app (by rfl) _ _ 22 (by rfl) _ _ (by rfl) (by rfl) _ (app_com (base := w2.heap.size) (S := wr.heap.size) _ HNW.out h23 (HCVK.out _ (HDA.out _)) HCL.out) ?_; rintro v1 y1 ⟨g1, c1, rfl, hF1⟩; have HF1 := Lib.hid hF1.1; have HY1 : Hid (Below wr.heap.size wr y1) := Lib.hid ((HDA.out _).grown hF1.2 (by simp) (fun g hg => by injection hg with hg; omega)); clear hF1)
          | (refine step_app (by rfl) _ _ 27 (by rfl) _ _ (by rfl) (by rfl) _ (app_prop (base := w2.heap.size) (n := i) (Z := y1.heap.size) _ ⟨k, R, ⟨#[]⟩, C⟩ (.slice (some ⟨g1, 0, none⟩) C.length c1) rfl (row_keep HU2.out (fun g hg => ((HY1.out.alloc HY1.out.size _).block g (row_lt HU2.out hg).2))) (heap_alloc_new y1 _) (by omega) (by have := HY1.out.size; simp; omega)) ?_; intro v2 y2 hF2; have HF2 := Lib.hid hF2.1; have HG2 := Lib.hid hF2.2; have HY2 : Hid (Below w2.heap.size w2 y2) := Lib.hid ((((bthen HB.out (Below.refl wr.heap.size wr)).trans (HY1.out.mono h23)).alloc (by have := HY1.out.size; omega) _).grown hF2.2 (by have := HY1.out.size; simp; omega) (fun g hg => (row_lt HU2.out hg).1)); clear hF2))
      all_goals (
        have hty : ∀ (g : Nat) (cs : Array Value), wr.heap[g]? = some (.cells cs 9 (0, 0)) → y2.heap[g]? = wr.heap[g]? := fun g cs hg => (HG2.out.block g (Nat.lt_of_lt_of_le (lt_of_block hg) (by have := HY1.out.size; simp; omega)) (fun e => by
          obtain ⟨cs', h9⟩ := row_cells HU2.out e.symm
          rw [hg] at h9
          injection h9 with h9
          injection h9 with _ h9
          exact absurd h9 (by decide))).trans ((Below.heap_alloc y1 _ _ (Nat.lt_of_lt_of_le (lt_of_block hg) HY1.out.size)).trans (HY1.out.block g (lt_of_block hg)))
        have hnew : y2.ownsRow w2.heap.size 9 1 (.slice (some ⟨g1, 0, none⟩) C.length c1) C.length (C.map Value.string) := row_keep HF1.out (fun g hg => by
          obtain ⟨cs, hcs⟩ := row_cells HF1.out hg
          refine (HG2.out.block g (by have := lt_of_block hcs; simp; omega) (fun e => ?_)).trans (Below.heap_alloc y1 _ _ (lt_of_block hcs))
          obtain ⟨cs', h9⟩ := row_cells HU2.out e.symm
          rw [← HY1.out.block g (lt_of_block h9), hcs] at h9
          injection h9 with h9
          injection h9 with _ h9
          exact absurd h9 (by decide))
        have hl9 : ((p.ks.take i).map (dataOf p (fun _ => ⟨#[]⟩))).length = i := by rw [List.length_map, List.length_take, HN.out]; omega
        have hrows : ∀ (j : Nat) (d : PropD) (u : Value), ((p.ks.take i).map (dataOf p (fun _ => ⟨#[]⟩)))[j]? = some d → us[j]? = some u → y2.ownsRow w2.heap.size 9 1 u d.com.length (d.com.map Value.string) := fun j d u hd hu => row_keep (HU3.out j d u hd hu) (fun g hg => by
          obtain ⟨cs, hcs⟩ := row_cells (HU3.out j d u hd hu) hg
          exact hty g cs hcs)
        have hsn := PRow.snoc (d := ⟨k, R, ⟨#[]⟩, C⟩) HU1.out (by rw [hl9]; exact HF2.out) hrows hnew
        have HR2 : Hid (PRow w2.heap.size v2 ((p.ks.take (i + 1)).map (dataOf p (fun _ => ⟨#[]⟩))) y2) := Lib.hid (by
          rw [List.take_add_one, HX.out, List.map_append]
          show PRow _ _ (_ ++ [dataOf p (fun _ => ⟨#[]⟩) k]) _
          rw [HDD.out]
          exact hsn)
        clear hrows hsn
        have HB2' := Lib.hid HY2.out
        clear hty hnew hl9
        go_wp2
        go_roundg (N - (i + 1))
        case measure => omega
        case rel => exact ⟨i + 1, by go_num, by omega, rfl, HR2, HB2'⟩)
    · have hiz : ¬ (i : Int) < (N : Int) := by omega
      obtain rfl : i = N := by omega
      have hsz2 := HB02.out.size
      go_wp2
      go_ret2
      refine ⟨_, u15, rfl, bthen HB02.out HB.out, ?_⟩
      have := HR.out
      rw [List.take_of_length_le (Nat.le_of_eq HN.out)] at this
      exact this.base hsz2
end Go.Proofs.YtackciefmdiphaaGreatDoor
