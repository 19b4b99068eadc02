/- impl.props: the properties of a set. -/
import Derived.Test.YtackciefmdiphaaGreatDoorLoadP
import Derived.Deep.RegionHeld3
import Derived.Deep.AppendLies
import Derived.Deep.DrawnRows
set_option linter.unusedVariables false
namespace Go.Proofs.YtackciefmdiphaaGreatDoor
open Go.RowKit Plain Go.Maps

def dataOf (p : PSt) (vf : ByteArray → ByteArray) (k : ByteArray) : PropD := ⟨k, rawOf p.D k, vf k, (p.cf k).getD []⟩
def PropsPost (l : List PropD) (w : World) (e : Ending) (w' : World) : Prop := ∃ v, e = .returned v ∧ PRow w.heap.size v l w' ∧ Below w.heap.size w w'
/-- what is asked of Get -/
def GetsTo (pb : Nat) (ks : List ByteArray) (vf : ByteArray → ByteArray) (w : World) : Prop :=
  ∀ k ∈ ks, ∀ wr, Below w.heap.size w wr → Calls Tryz.prog 54 #[.pointer (some ⟨pb, 0, none⟩), .string k] wr fun e w' => ∃ b : Bool, e = .returned (.tuple #[.string (vf k), .bool b]) ∧ Below wr.heap.size wr w'
theorem look_run {w : World} {b n : Nat} {D : DataW Unit} (h : MpS w b n D) {k : ByteArray} (hk : k.size ≤ maxLen) : (Instr.lookup 83 (.map (some b)) (.string k) false).run Tryz.prog w = .ok (.string (rawOf D k)) w := by
  obtain ⟨v, ps, hrun, hv⟩ := h.lookup (t := 83) (e := 9) lawS Tryz.underlying83 (zeroS w) (plainElem_string (H := Unit) Tryz.underlying9 (by unfold maxLen; decide)) (WideMaps.keyOf_string_mk Tryz.underlying9 hk)
  obtain ⟨c, rfl, hz, hs⟩ := plainElem_string_inv Tryz.underlying9 hv
  rw [hrun, rawOf_of (congrArg Prod.fst hz)]
/-- the comments of a key, as they are got: one slice, in every world that goes on -/
theorem com_got {B pb mb mc n nc : Nat} {p : PSt} {DC : DataW Value} {lv : Value} {dis : Bool} {w : World} (h : LP B pb mb mc n nc p DC lv dis w) (k : ByteArray) (hk : k.size ≤ 2147483647) :
    ∃ cv, w.ownsRow B 9 1 cv ((p.cf k).getD []).length (((p.cf k).getD []).map Value.string) ∧ ∀ y, Below w.heap.size w y → Calls Tryz.prog 52 #[.pointer (some ⟨pb, 0, none⟩), .string k] y fun e w' => e = .returned cv ∧ w' = y := by
  have c4 : ∀ y, Below w.heap.size w y → y.cell? ⟨pb, 4, none⟩ = some (.map (some mc)) := fun y hy => by
    have hb := (h.below hy).blk
    simp [World.cell?, hb]
  cases hc : p.cf k with
  | none =>
    refine ⟨.slice none 0 0, World.ownsRow_nil _ _ _ _, fun y hy => ?_⟩
    refine (comGet_any pb mc nc DC k y (c4 y hy) (h.below hy).cp hk).mono ?_
    rintro e w' ⟨⟨v, rfl, _, h2⟩, rfl⟩
    rw [h2 ((h.cr k).1 hc)]
    exact ⟨rfl, rfl⟩
  | some l =>
    obtain ⟨v, v1, v2, v3, v4⟩ := (h.cr k).2 l hc
    refine ⟨v, v3, fun y hy => ?_⟩
    refine (comGet_any pb mc nc DC k y (c4 y hy) (h.below hy).cp hk).mono ?_
    rintro e w' ⟨⟨v', rfl, h1, _⟩, rfl⟩
    have := h1 v1
    rw [v2] at this
    injection this with this
    rw [this]
    exact ⟨rfl, rfl⟩
/-- an append at a step of a region that draws -/
theorem step_app {ops : Array Oper} {o : Oper} {a : Act} {w : World} {K : Act → World → Prop} {Q : Exit → Act → World → Prop} {E : Prop} (hgd : o.guard = none) (s x : Operand) (t : TypeId)
    (ho : o.op = .call { callee := .builtin .append, args := #[s, x], argTypes := #[t, t] }) (v src : Value) (hs : a.eval s = v) (hx : a.eval x = src) (F : Value → World → Prop)
    (hrun : ∃ v' w', (Builtin.append_ #[t, t] o.type #[v, src]).run Tryz.prog w = .ok v' w' ∧ F v' w') (h : ∀ v' w', F v' w' → K (a.put o.dst v') w') :
    if Region.wanted o (yielded ops a.tmps) = true then Oper.wp Tryz.prog o a w K Q else E := by
  have hw : Region.wanted o (yielded ops a.tmps) = true := by simp [Region.wanted, hgd]
  rw [if_pos hw]
  obtain ⟨v', w', hr, hF⟩ := hrun
  unfold Oper.wp execOp
  simp only [ho, resolve, invoke, builtin, Sem.run_bind, Sem.run_pure, Result.andThen_ok, List.map_toArray, List.map_cons, List.map_nil, hs, hx, hr]
  exact h v' w' hF
/-- comments are copied onto an empty slice -/
theorem app_com {y : World} {base B S : Nat} {cv : Value} {com : List ByteArray} (ty : TypeId) (hS : y.heap[S]? = some (.cells #[] 9 (0, 0))) (hb : base ≤ S) (hc : y.ownsRow B 9 1 cv com.length (com.map Value.string)) (hL : com.length ≤ 10000000) :
    ∃ v' y', (Builtin.append_ #[22, 22] ty #[.slice (some ⟨S, 0, none⟩) 0 0, cv]).run Tryz.prog y = .ok v' y' ∧ ∃ g c, v' = .slice (some ⟨g, 0, none⟩) com.length c ∧ y'.ownsRow base 9 1 v' com.length (com.map Value.string) ∧ y.grownBy y' (some S) := by
  obtain ⟨i0, hi, hz0, hz1, hz2⟩ := info_parts infoStr
  have hlt := lt_of_block hS
  have hown : y.ownsRow base 9 1 (.slice (some ⟨S, 0, none⟩) 0 0) 0 [] := ⟨rfl, .inr ⟨S, 0, #[], rfl, hb, hS, Nat.le_refl _, by unfold maxLen; omega, rfl, rfl⟩⟩
  rcases hc.2 with ⟨rfl, h0⟩ | ⟨g, cap, cur, rfl, _⟩
  · have hc0 : com = [] := List.eq_nil_of_length_eq_zero h0
    subst hc0
    exact ⟨_, y, run_append_owned_none (P := Tryz.prog) (w := y) base 22 ty 9 i0 1 Tryz.underlying22 hi _ 0 [] hown, S, 0, rfl, hown, ⟨rfl, rfl, rfl, Nat.le_refl _, fun _ _ _ => rfl⟩⟩
  · obtain ⟨v', y', hr, h2, h3, h4, _⟩ := run_append_own_at (P := Tryz.prog) y base 22 ty 9 i0 (.string ⟨#[]⟩) 1 16 Tryz.underlying22 hi hz0 hz1 hz2 rfl (by decide) _ 0 [] hown ⟨g, 0, none⟩ com.length cap (com.map Value.string) (by simp) (hc.cells rfl) (by intro u hu; obtain ⟨x, _, rfl⟩ := List.mem_map.1 hu; rfl) (by unfold maxLen; omega) (by omega) (by omega)
    have h2' : y'.ownsRow base 9 1 v' com.length (com.map Value.string) := by simpa using h2
    rcases h2'.2 with ⟨h5, _⟩ | ⟨g', c', cur', h5, _⟩
    · have := (h4.1 h5).1
      cases this
    · exact ⟨v', y', hr, g', c', h5, h2', h3⟩
/-- a property is put behind a row -/
theorem app_prop {y : World} {base n Z : Nat} {v : Value} {xs : List Value} (ty : TypeId) (d : PropD) (u : Value) (hu : u.oneCell' = true) (hv : y.ownsRow base 31 4 v n xs) (hZ : y.heap[Z]? = some (.cells #[.string d.key, .string d.raw, .string d.val, u] 31 (0, 0))) (hn : n ≤ 10000000) (hb : base ≤ y.heap.size) :
    ∃ v' y', (Builtin.append_ #[27, 27] ty #[v, .slice (some ⟨Z, 0, none⟩) 1 1]).run Tryz.prog y = .ok v' y' ∧ y'.ownsRow base 31 4 v' (n + 1) (xs ++ propV d u) ∧ y.grownBy y' v.ownBlock := by
  obtain ⟨j0, hj, hy0, hy1, hy2⟩ := info_parts infoPr
  obtain ⟨v', y', hr, h2, h3, _, _⟩ := run_append_own_at (P := Tryz.prog) y base 27 ty 31 j0 (.agg #[.string ⟨#[]⟩, .string ⟨#[]⟩, .string ⟨#[]⟩, .slice none 0 0]) 4 72 Tryz.underlying27 hj hy0 hy1 hy2 rfl (by decide) v n xs hv ⟨Z, 0, none⟩ 1 1 (propV d u) rfl (by
      intro j x hx
      rw [add_at, Nat.zero_add]
      simp only [World.cell?, hZ]
      simpa [propV] using hx) (by
      intro x hx
      simp [propV] at hx
      rcases hx with rfl | rfl | rfl | rfl
      · rfl
      · rfl
      · rfl
      · exact hu) (by unfold maxLen; omega) (by omega) hb
  exact ⟨v', y', hr, h2, h3⟩
theorem one_row {w : World} {B sz n : Nat} {e : TypeId} {v : Value} {xs : List Value} (h : w.ownsRow B e sz v n xs) : v.oneCell' = true := by
  rcases h.2 with ⟨rfl, _⟩ | ⟨g, cap, cur, rfl, _⟩ <;> rfl
attribute [local go_sem ↓] Go.wp_at_zero Go.wp_at_succ
set_option maxHeartbeats 4000000 in
set_option maxRecDepth 100000 in
theorem props_any (B pb mb mc n nc : Nat) (p : PSt) (DC : DataW Value) (lv : Value) (dis : Bool) (vf : ByteArray → ByteArray) (w : World) (h : LP B pb mb mc n nc p DC lv dis w) (hn : n ≤ 10000000) (hks : p.ks.length ≤ 10000000) (hsz : ∀ k ∈ p.ks, k.size ≤ 10000000) (hcf : ∀ k l, p.cf k = some l → l.length ≤ 10000000) (hget : GetsTo pb p.ks vf w) :
    Calls Tryz.prog 32 #[.pointer (some ⟨pb, 0, none⟩)] w (PropsPost (p.ks.map (dataOf p vf)) w) := by
  unfold PropsPost
  obtain ⟨i0, hi, hz0, hz1, hz2⟩ := info_parts infoStr
  obtain ⟨j0, hj, hy0, hy1, hy2⟩ := info_parts infoPr
  obtain ⟨c2, c3, c5, c6, _⟩ := seven_cells h.blk
  have HL := Lib.hid h
  have HMP := Lib.hid (map_any pb mb n p.D w c3 h.mp hn)
  have HG := Lib.hid hget
  clear hget h c2 c3 c5 c6
  go_enter Tryz.func32, Tryz.ntmps32
  go_wp2_with (first
    | (go_at_call 50; (with_reducible refine HMP.out.mono ?_); rintro e w1 ⟨M, rfl, hM1, hM2, hb1⟩; have HM := Lib.hid hM2; have HB1 := Lib.hid hb1; have HL1 := Lib.hid (HL.out.below hb1); have HKY := Lib.hid (keysN_any B pb p.ks.length lv (p.ks.map Value.string) w1 (seven_cells HL1.out.blk).2.2.1 HL1.out.row hks (by intro v hv; obtain ⟨x, _, rfl⟩ := List.mem_map.1 hv; rfl)); clear hM2 hb1; dsimp only)
    | (go_at_call 51; (with_reducible refine HKY.out.mono ?_); rintro e w2 ⟨G, rfl, hG, hb2⟩; have HGR := Lib.hid hG; have HB2 := Lib.hid hb2; clear hG hb2; dsimp only))
  obtain ⟨N, hN⟩ : ∃ N, p.ks.length = N := ⟨_, rfl⟩
  have HN := Lib.hid hN
  rw [hN] at HGR hks ⊢
  have HB02 : Hid (Below w.heap.size w w2) := Lib.hid (bthen HB1.out HB2.out)
  have HL2 := Lib.hid (HL1.out.below HB2.out)
  have HM2 : Hid (MpS w2 M _ p.D) := Lib.hid (mp_keep HM.out (HB2.out.block M (map_lt (mp_is HM.out))))
  clear hN HMP HKY HM HL1
  go_loopg [4, 14] N (fun g' v4 v14 wr => ∃ i : Nat, v14 = .int .i64 (i : Int) ∧ i ≤ N ∧ g' = N - i ∧ Hid (PRow w2.heap.size v4 ((p.ks.take i).map (dataOf p vf)) wr) ∧ Hid (Below w2.heap.size w2 wr))
  case atStart => exact ⟨0, rfl, Nat.zero_le _, rfl, Lib.hid (PRow.nil _ _), Lib.hid (Below.refl _ _)⟩
  case round =>
    obtain ⟨i, rfl, hin, rfl, HR, HB⟩ := hrel
    by_cases hlt : i < N
    · have hiz : (i : Int) < (N : Int) := by omega
      obtain ⟨k, hx⟩ : ∃ x, p.ks[i]? = some x := ⟨_, List.getElem?_eq_getElem (by have := HN.out; omega)⟩
      have x0 : wr.cell? ⟨G, i, none⟩ = some (.string k) := by
        have hrw := row_keep HGR.out (fun g hg => HB.out.block g (row_lt HGR.out hg).2)
        rw [hrw.cellAt i (by omega)]
        simp [hx]
      have hks' : k.size ≤ 10000000 := hsz k (List.mem_of_getElem? hx)
      have HGT := Lib.hid (HG.out k (List.mem_of_getElem? hx) wr (bthen HB02.out HB.out))
      have HX := Lib.hid hx
      clear hx
      go_wp2_with (go_at_call 54; (with_reducible refine HGT.out.mono ?_); rintro e w3 ⟨bb, rfl, hb3⟩; have HB3 := Lib.hid hb3; clear hb3; dsimp only)
      have HM3 : Hid (MpS w3 M _ p.D) := Lib.hid (mp_keep HM2.out ((bthen HB.out HB3.out).block M (map_lt (mp_is HM2.out))))
      have HL3 := Lib.hid (HL2.out.below (bthen HB.out HB3.out))
      obtain ⟨cv, hcv, hgc⟩ := com_got HL3.out k (by omega)
      obtain ⟨R, hR⟩ : ∃ R, rawOf p.D k = R := ⟨_, rfl⟩
      obtain ⟨Vk, hVk⟩ : ∃ R, vf k = R := ⟨_, rfl⟩
      have hkm : k.size ≤ maxLen := by unfold maxLen; omega
      have HLK : Hid (∀ y, Below w3.heap.size w3 y → (Instr.lookup 83 (.map (some M)) (.string k) false).run Tryz.prog y = .ok (.string R) y) := Lib.hid (fun y hy => hR ▸ look_run (mp_keep HM3.out (hy.block M (map_lt (mp_is HM3.out)))) hkm)
      have HLK2 : Hid (∀ y, Below w2.heap.size w2 y → (Instr.lookup 83 (.map (some M)) (.string k) false).run Tryz.prog y = .ok (.string R) y) := Lib.hid (fun y hy => hR ▸ look_run (mp_keep HM2.out (hy.block M (map_lt (mp_is HM2.out)))) hkm)
      have HCV := Lib.hid hcv
      have HGC := Lib.hid hgc
      rw [hVk]
      clear hcv hgc
      have HD3 : Hid (Below w3.heap.size w3 w3.drew) := Lib.hid (Below.drew (Below.refl _ _))
      have HDA : Hid (∀ o, Below w3.heap.size w3 (w3.alloc o).drew) := Lib.hid (fun o => Below.drew ((Below.refl _ _).alloc (Nat.le_refl _) o))
      have HNW : Hid (((w3.alloc (.cells #[] 9)).drew).heap[w3.heap.size]? = some (.cells #[] 9 (0, 0))) := Lib.hid (heap_alloc_new w3 (.cells #[] 9))
      have HCL : Hid (((p.cf k).getD []).length ≤ 10000000) := Lib.hid (by
        cases hc : p.cf k with
        | none => simp
        | some l => exact hcf k l hc)
      have HCVK : Hid (∀ y, Below w3.heap.size w3 y → y.ownsRow B 9 1 cv ((p.cf k).getD []).length (((p.cf k).getD []).map Value.string)) := Lib.hid (fun y hy => row_keep HCV.out (fun g hg => hy.block g (row_lt HCV.out hg).2))
      have h23 : w2.heap.size ≤ w3.heap.size := Nat.le_trans HB.out.size HB3.out.size
      obtain ⟨us, hus1, hus2, hus3⟩ := HR.out.below HB3.out
      have HU1 := Lib.hid hus1
      have HU2 := Lib.hid hus2
      have HU3 := Lib.hid hus3
      obtain ⟨C, hC⟩ : ∃ C, (p.cf k).getD [] = C := ⟨_, rfl⟩
      rw [hC] at HCVK HCL
      have hdd : dataOf p vf k = ⟨k, R, Vk, C⟩ := by unfold dataOf; rw [hR, hVk, hC]
      have HDD := Lib.hid hdd
      have hln : ((p.ks.take i).map (dataOf p vf)).length = i := by rw [List.length_map, List.length_take, HN.out]; omega
      rw [hln] at HU2
      clear hus1 hus2 hus3 hC hdd hR hVk hln
      go_region_held3 (fun y => (Instr.lookup 83 (.map (some M)) (.string k) false).run Tryz.prog y = .ok (.string R) y)
        (first | exact HLK.out _ HD3.out | exact HLK.out _ (HDA.out _) | exact HLK.out _ HY1.out | exact HLK.out _ (HY1.out.alloc HY1.out.size _) | exact HLK2.out _ HY2.out)
        (first
          | (go_at_call 52; (with_reducible refine (HGC.out _ (by first | exact HD3.out | exact HDA.out _)).mono ?_); rintro e y9 ⟨rfl, rfl⟩; dsimp only)
          | (refine step_app (by rfl) _ _ 22 (by rfl) _ _ (by rfl) (by rfl) _ (app_com (base := w2.heap.size) (S := w3.heap.size) _ HNW.out h23 (HCVK.out _ (HDA.out _)) HCL.out) ?_; rintro v1 y1 ⟨g1, c1, rfl, hF1⟩; have HF1 := Lib.hid hF1.1; have HY1 : Hid (Below w3.heap.size w3 y1) := Lib.hid ((HDA.out _).grown hF1.2 (by simp) (fun g hg => by injection hg with hg; omega)); clear hF1)
          | (refine step_app (by rfl) _ _ 27 (by rfl) _ _ (by rfl) (by rfl) _ (app_prop (base := w2.heap.size) (n := i) (Z := y1.heap.size) _ ⟨k, R, Vk, C⟩ (.slice (some ⟨g1, 0, none⟩) C.length c1) rfl (row_keep HU2.out (fun g hg => ((HY1.out.alloc HY1.out.size _).block g (row_lt HU2.out hg).2))) (heap_alloc_new y1 _) (by omega) (by have := HY1.out.size; simp; omega)) ?_; intro v2 y2 hF2; have HF2 := Lib.hid hF2.1; have HG2 := Lib.hid hF2.2; have HY2 : Hid (Below w2.heap.size w2 y2) := Lib.hid ((((bthen HB.out HB3.out).trans (HY1.out.mono h23)).alloc (by have := HY1.out.size; omega) _).grown hF2.2 (by have := HY1.out.size; simp; omega) (fun g hg => (row_lt HU2.out hg).1)); clear hF2))
      all_goals (
        have hty : ∀ (g : Nat) (cs : Array Value), w3.heap[g]? = some (.cells cs 9 (0, 0)) → y2.heap[g]? = w3.heap[g]? := fun g cs hg => (HG2.out.block g (Nat.lt_of_lt_of_le (lt_of_block hg) (by have := HY1.out.size; simp; omega)) (fun e => by
          obtain ⟨cs', h9⟩ := row_cells HU2.out e.symm
          rw [hg] at h9
          injection h9 with h9
          injection h9 with _ h9
          exact absurd h9 (by decide))).trans ((Below.heap_alloc y1 _ _ (Nat.lt_of_lt_of_le (lt_of_block hg) HY1.out.size)).trans (HY1.out.block g (lt_of_block hg)))
        have hnew : y2.ownsRow w2.heap.size 9 1 (.slice (some ⟨g1, 0, none⟩) C.length c1) C.length (C.map Value.string) := row_keep HF1.out (fun g hg => by
          obtain ⟨cs, hcs⟩ := row_cells HF1.out hg
          refine (HG2.out.block g (by have := lt_of_block hcs; simp; omega) (fun e => ?_)).trans (Below.heap_alloc y1 _ _ (lt_of_block hcs))
          obtain ⟨cs', h9⟩ := row_cells HU2.out e.symm
          rw [← HY1.out.block g (lt_of_block h9), hcs] at h9
          injection h9 with h9
          injection h9 with _ h9
          exact absurd h9 (by decide))
        have hl9 : ((p.ks.take i).map (dataOf p vf)).length = i := by rw [List.length_map, List.length_take, HN.out]; omega
        have hrows : ∀ (j : Nat) (d : PropD) (u : Value), ((p.ks.take i).map (dataOf p vf))[j]? = some d → us[j]? = some u → y2.ownsRow w2.heap.size 9 1 u d.com.length (d.com.map Value.string) := fun j d u hd hu => row_keep (HU3.out j d u hd hu) (fun g hg => by
          obtain ⟨cs, hcs⟩ := row_cells (HU3.out j d u hd hu) hg
          exact hty g cs hcs)
        have hsn := PRow.snoc (d := ⟨k, R, Vk, C⟩) HU1.out (by rw [hl9]; exact HF2.out) hrows hnew
        have HR2 : Hid (PRow w2.heap.size v2 ((p.ks.take (i + 1)).map (dataOf p vf)) y2) := Lib.hid (by
          rw [List.take_add_one, HX.out, List.map_append]
          show PRow _ _ (_ ++ [dataOf p vf k]) _
          rw [HDD.out]
          exact hsn)
        clear hrows hsn
        have HB2' := Lib.hid HY2.out
        clear hty hnew hl9
        go_wp2
        go_roundg (N - (i + 1))
        case measure => omega
        case rel => exact ⟨i + 1, by go_num, by omega, rfl, HR2, HB2'⟩)
    · have hiz : ¬ (i : Int) < (N : Int) := by omega
      obtain rfl : i = N := by omega
      have hsz2 := HB02.out.size
      go_wp2
      go_ret
      refine ⟨u4, rfl, ?_, bthen HB02.out HB.out⟩
      have := HR.out
      rw [List.take_of_length_le (Nat.le_of_eq HN.out)] at this
      exact this.base hsz2
end Go.Proofs.YtackciefmdiphaaGreatDoor
