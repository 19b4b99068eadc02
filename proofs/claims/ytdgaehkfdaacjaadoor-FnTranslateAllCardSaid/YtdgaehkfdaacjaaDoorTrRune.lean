/- The walk of translateRune. -/
import Derived.Test.YtdgaehkfdaacjaaDoorTrTab
import Derived.Test.YtdgaehkfdaacjaaDoorTrLook
import Derived.Test.YtdgaehkfdaacjaaDoorAddR
import Derived.Test.YtdgaehkfdaacjaaDoorFrm
import Derived.Deep.CutBlock
import Derived.Deep.LoopGhost
import Derived.Deep.QuietTactic
import Derived.BigQuiet
import Derived.WalkSpells
set_option linter.unusedVariables false
namespace Go.Proofs.YtdgaehkfdaacjaaDoor
open Go.RowKit Plain Go.Maps

theorem lit175 (a : Act) (h : Fr 175 a) : ∃ f : Nat → Value, (∀ i, Sl a i = f i) ∧ a = ⟨#[f 0, f 1, f 2, f 3, f 4, f 5, f 6, f 7, f 8, f 9, f 10, f 11, f 12, f 13, f 14, f 15, f 16, f 17, f 18, f 19, f 20, f 21, f 22, f 23, f 24, f 25, f 26, f 27, f 28, f 29, f 30, f 31, f 32, f 33, f 34, f 35, f 36, f 37, f 38, f 39, f 40, f 41, f 42, f 43, f 44, f 45, f 46, f 47, f 48, f 49, f 50, f 51, f 52, f 53, f 54, f 55, f 56, f 57, f 58, f 59, f 60, f 61, f 62, f 63, f 64, f 65, f 66, f 67, f 68, f 69, f 70, f 71, f 72, f 73, f 74, f 75, f 76, f 77, f 78, f 79, f 80, f 81, f 82, f 83, f 84, f 85, f 86, f 87, f 88, f 89, f 90, f 91, f 92, f 93, f 94, f 95, f 96, f 97, f 98, f 99, f 100, f 101, f 102, f 103, f 104, f 105, f 106, f 107, f 108, f 109, f 110, f 111, f 112, f 113, f 114, f 115, f 116, f 117, f 118, f 119, f 120, f 121, f 122, f 123, f 124, f 125, f 126, f 127, f 128, f 129, f 130, f 131, f 132, f 133, f 134, f 135, f 136, f 137, f 138, f 139, f 140, f 141, f 142, f 143, f 144, f 145, f 146, f 147, f 148, f 149, f 150, f 151, f 152, f 153, f 154, f 155, f 156, f 157, f 158, f 159, f 160, f 161, f 162, f 163, f 164, f 165, f 166, f 167, f 168, f 169, f 170, f 171, f 172, f 173, f 174], []⟩ := frame_lit 175 a h
/-- what a translator answers for a character: what it becomes, whether it matches, whether it is deleted -/
def TrRPost (d : TD) (fl : Int × Bool × Bool × Bool) (r : Nat) (w : World) (e : Ending) (w' : World) : Prop :=
  e = .returned (.tuple #[.int .i32 (trR d fl r).1, .bool (trR d fl r).2.1, .bool (trR d fl r).2.2]) ∧ Below w.heap.size w w'
theorem drewN_below (w : World) (n : Nat) : Below w.heap.size w (w.drewN n) := ⟨rfl, rfl, rfl, Nat.le_refl _, fun _ _ => rfl⟩

set_option maxHeartbeats 8000000 in
set_option maxRecDepth 100000 in
theorem trRune_any (base b : Nat) (vs : Value) (d : TD) (fl : Int × Bool × Bool × Bool) (vq vm vr : Value) (w : World) (h : TrQ base b vs d fl vq vm vr w) (hd : DOk d) (r : Nat) (hr : r ≤ 1114111) (hlen : d.R.length ≤ 10000000000) :
    Calls Tryd.prog 49 #[.pointer (some ⟨b, 0, none⟩), .int .i32 (r : Int)] w (TrRPost d fl r w) := by
  obtain ⟨m, rev, del, has⟩ := fl
  obtain ⟨A, cap, hvr, hA⟩ : ∃ A cap, vr = .slice A d.R.length cap ∧ (0 < d.R.length → ∃ g0, A = some ⟨g0, 0, none⟩) := by
    obtain ⟨gs, _, _, h3⟩ := h.r
    rcases h3.2 with ⟨hv, hn⟩ | ⟨g0, cap, cur, hv, _⟩
    · exact ⟨none, 0, by rw [hn]; exact hv, fun e => by omega⟩
    · exact ⟨_, cap, hv, fun _ => ⟨g0, rfl⟩⟩
  subst hvr
  have c0 : w.cell? ⟨b, 0, none⟩ = some vq := by simp [World.cell?, h.blk]
  have c1 : w.cell? ⟨b, 1, none⟩ = some vm := by simp [World.cell?, h.blk]
  have c2 : w.cell? ⟨b, 2, none⟩ = some (.slice A d.R.length cap) := by simp [World.cell?, h.blk]
  have c3 : w.cell? ⟨b, 3, none⟩ = some (.int .i32 m) := by simp [World.cell?, h.blk]
  have c4 : w.cell? ⟨b, 4, none⟩ = some (.bool rev) := by simp [World.cell?, h.blk]
  have c5 : w.cell? ⟨b, 5, none⟩ = some (.bool del) := by simp [World.cell?, h.blk]
  have H := Lib.hid h
  have HD := Lib.hid hd
  have HA := Lib.hid hA
  have hr0 : (0 : Int) ≤ (r : Int) := by omega
  have hmn := fun (w : World) (r : Option Nat) => run_neq_map_nil (P := Tryd.prog) w 55 21 21 r Tryd.underlying55
  clear h hd hA
  go_enter Tryd.func49, Tryd.ntmps49
  go_upto_block 0 with fail
  refine wp_cut (fun a wx => ∃ (x : Int), Below w.heap.size w wx ∧ (∀ c, tlook d (r : Int) = some c → x = if 0 ≤ m then m else c) ∧ Fr 175 a ∧ Sl a 0 = .pointer (some ⟨b, 0, none⟩) ∧ Sl a 1 = .int .i32 (r : Int) ∧ Sl a 4 = .int .i32 x ∧ Sl a 5 = .bool (tlook d (r : Int)).isSome ∧ Sl a 6 = .bool false) ?rest0 ?first0
  case first0 =>
    intro J0 K0 hJ0 hK0
    go_upto_block 3 with fail
    refine wp_cut (fun a wx => w = wx ∧ d.S (r : Int) = none ∧ Fr 175 a ∧ Sl a 0 = .pointer (some ⟨b, 0, none⟩) ∧ Sl a 1 = .int .i32 (r : Int) ∧ Sl a 4 = .int .i32 0 ∧ Sl a 5 = .bool false ∧ Sl a 6 = .bool false) ?rest3 ?first3
    case first3 =>
      intro J3 K3 hJ3 hK3
      go_upto_block 2 with fail
      refine wp_cut (fun a wx => w = wx ∧ (r < 128 → d.S (r : Int) = none) ∧ Fr 175 a ∧ Sl a 0 = .pointer (some ⟨b, 0, none⟩) ∧ Sl a 1 = .int .i32 (r : Int) ∧ Sl a 4 = .int .i32 0 ∧ Sl a 5 = .bool false ∧ Sl a 6 = .bool false) ?rest2 ?first2
      case first2 =>
        intro J2 K2 hJ2 hK2
        rcases H.out.q with ⟨hq, hq1, hq2⟩ | ⟨qb, hq, hqb, cs, hcs, hcz, hcc⟩
        · subst hq
          have HS : Hid (r < 128 → d.S (r : Int) = none) := Lib.hid (fun h => hq1 r h)
          clear hq1 hq2
          rcases H.out.m with ⟨hm, hm1, hm2⟩ | ⟨mb, hm, hmb, _⟩
          · subst hm
            have HS2 : Hid (d.S (r : Int) = none) := Lib.hid (by by_cases h : r < 128; exact HS.out h; exact hm1 r (by omega) (by omega))
            clear hm1 hm2
            go_wp2_with fail
            refine Met.intro ?_
            go_step
            exact ⟨rfl, HS2.out, ⟨rfl, rfl⟩, rfl, rfl, rfl, rfl, rfl⟩
          · subst hm
            go_wp2_with fail
            refine Met.intro ?_
            go_step
            exact ⟨rfl, HS.out, ⟨rfl, rfl⟩, rfl, rfl, rfl, rfl, rfl⟩
        · subst hq
          by_cases hr8 : r < 128
          · have hr8z : (r : Int) ≤ 127 := by omega
            have hr8y : (r : Int) < 128 := by omega
            obtain ⟨k1, k2⟩ := hcc r hr8
            have d1 : w.cell? ⟨qb, r, none⟩ = some (.int .i32 ((d.S (r : Int)).getD 0)) := by simp only [World.cell?, hcs]; exact k1
            have d2 : w.cell? ⟨qb, 128 + r, none⟩ = some (.bool (d.S (r : Int)).isSome) := by simp only [World.cell?, hcs]; exact k2
            clear k1 k2 hcc hcs hcz hr8
            cases hS : d.S (r : Int) with
            | none =>
              rw [hS] at d1 d2
              have HS := Lib.hid hS
              clear hS
              dsimp only [Option.getD_none, Option.isSome_none] at d1 d2
              go_wp2_with fail
              refine Met.intro ?_
              go_step
              exact ⟨rfl, fun _ => HS.out, ⟨rfl, rfl⟩, rfl, rfl, rfl, rfl, rfl⟩
            | some c =>
              rw [hS] at d1 d2
              have HC : Hid (tlook d (r : Int) = some c) := Lib.hid (by unfold tlook; rw [hS])
              clear hS
              dsimp only [Option.getD_some, Option.isSome_some] at d1 d2
              by_cases hm0 : 0 ≤ m
              · go_wp2_with fail
                refine Met.intro ?_
                go_step
                exact ⟨_, by first | exact Below.refl _ _ | exact drewN_below _ _ | exact (drewN_below _ _).trans (drewN_below _ _) | exact ((drewN_below _ _).trans (drewN_below _ _)).trans (drewN_below _ _), (fun c' hc' => by have e := HC.out; rw [hc'] at e; injection e with e; rw [e]; first | rw [if_pos (show 0 ≤ m by omega)] | rw [if_neg (show ¬ 0 ≤ m by omega)]), ⟨rfl, rfl⟩, rfl, rfl, rfl, by rw [HC.out]; rfl, rfl⟩
              · go_wp2_with fail
                refine Met.intro ?_
                go_step
                exact ⟨_, by first | exact Below.refl _ _ | exact drewN_below _ _ | exact (drewN_below _ _).trans (drewN_below _ _) | exact ((drewN_below _ _).trans (drewN_below _ _)).trans (drewN_below _ _), (fun c' hc' => by have e := HC.out; rw [hc'] at e; injection e with e; rw [e]; first | rw [if_pos (show 0 ≤ m by omega)] | rw [if_neg (show ¬ 0 ≤ m by omega)]), ⟨rfl, rfl⟩, rfl, rfl, rfl, by rw [HC.out]; rfl, rfl⟩
          · have hr8z : ¬ (r : Int) ≤ 127 := by omega
            have HS : Hid (r < 128 → d.S (r : Int) = none) := Lib.hid (fun h => absurd h hr8)
            clear hr8 hcc hcs hcz
            go_wp2_with fail
            refine Met.intro ?_
            go_step
            exact ⟨rfl, HS.out, ⟨rfl, rfl⟩, rfl, rfl, rfl, rfl, rfl⟩
      case rest2 =>
      intro a wx hcut
      obtain ⟨rfl, hs8, hFr, hS0, hS1, hS4, hS5, hS6⟩ := hcut
      obtain ⟨f, hf, hA⟩ := lit175 a hFr
      rw [hf] at hS0 hS1 hS4 hS5 hS6
      rw [hS0, hS1, hS4, hS5, hS6] at hA
      clear hf hFr hS0 hS1 hS4 hS5 hS6
      subst hA
      have HS8 := Lib.hid hs8
      clear hs8
      rcases H.out.m with ⟨hm, hm1, hm2⟩ | ⟨mb, hm, hmb, D, hD, hD2⟩
      · subst hm
        have HS2 : Hid (d.S (r : Int) = none) := Lib.hid (by by_cases h : r < 128; exact HS8.out h; exact hm1 r (by omega) (by omega))
        have hln := fun (w : World) => Maps.look_nil (w := w) (P := Tryd.prog) true law32 Tryd.underlying55 (zero32 w) (keyOf_int_mk Tryd.underlying21 (i32_wf (a := (r : Int)) (by omega) (by omega)))
        clear hm1 hm2
        simp only [if_true] at hln
        go_wp2_with fail
        refine Met.intro ?_
        go_step
        exact ⟨rfl, HS2.out, ⟨rfl, rfl⟩, rfl, rfl, rfl, rfl, rfl⟩
      · subst hm
        have HDO := Lib.hid hD
        obtain ⟨k1, k2⟩ := hD2 (r : Int) (by omega) (by omega)
        have K1 := Lib.hid k1
        have K2 := Lib.hid k2
        clear k1 k2 hD hD2
        go_wp2_with (at_lookup; refine wpList_lookup_own_ok_int _ rfl _ _ 55 rfl 21 21 .i32 law32 Tryd.underlying55 Tryd.underlying21 (zero32 _) mb d.sg.length D rfl HDO.out _ _ rfl (keyOf_int_mk Tryd.underlying21 (i32_wf (by omega) (by omega))) ?_)
        intro c hat _
        rw [K1.out]
        have hc : c = (wide d.S (r : Int)).getD 0 := by have e := K2.out; rw [hat] at e; injection e with e; injection e
        have HCC := Lib.hid hc
        clear hat hc
        cases hS : wide d.S (r : Int) with
        | none =>
          have HS2 : Hid (d.S (r : Int) = none) := Lib.hid (by unfold wide at hS; split at hS; exact hS; exact HS8.out (by omega))
          have hc0 : c = 0 := by rw [HCC.out, hS]; rfl
          subst hc0
          clear hS
          dsimp only [Option.isSome_none]
          go_wp2_with fail
          refine Met.intro ?_
          go_step
          exact ⟨rfl, HS2.out, ⟨rfl, rfl⟩, rfl, rfl, rfl, rfl, rfl⟩
        | some y =>
          have hcy : c = y := by rw [HCC.out, hS]; rfl
          subst hcy
          have HC : Hid (tlook d (r : Int) = some c) := Lib.hid (by unfold wide at hS; split at hS; (unfold tlook; rw [hS]); cases hS)
          clear hS
          dsimp only [Option.isSome_some]
          by_cases hm0 : 0 ≤ m
          · go_wp2_with fail
            refine Met.intro ?_
            go_step
            exact ⟨_, by first | exact Below.refl _ _ | exact drewN_below _ _ | exact (drewN_below _ _).trans (drewN_below _ _) | exact ((drewN_below _ _).trans (drewN_below _ _)).trans (drewN_below _ _), (fun c' hc' => by have e := HC.out; rw [hc'] at e; injection e with e; rw [e]; first | rw [if_pos (show 0 ≤ m by omega)] | rw [if_neg (show ¬ 0 ≤ m by omega)]), ⟨rfl, rfl⟩, rfl, rfl, rfl, by rw [HC.out]; rfl, rfl⟩
          · go_wp2_with fail
            refine Met.intro ?_
            go_step
            exact ⟨_, by first | exact Below.refl _ _ | exact drewN_below _ _ | exact (drewN_below _ _).trans (drewN_below _ _) | exact ((drewN_below _ _).trans (drewN_below _ _)).trans (drewN_below _ _), (fun c' hc' => by have e := HC.out; rw [hc'] at e; injection e with e; rw [e]; first | rw [if_pos (show 0 ≤ m by omega)] | rw [if_neg (show ¬ 0 ≤ m by omega)]), ⟨rfl, rfl⟩, rfl, rfl, rfl, by rw [HC.out]; rfl, rfl⟩
    case rest3 =>
    intro a wx hcut
    obtain ⟨rfl, hs0, hFr, hS0, hS1, hS4, hS5, hS6⟩ := hcut
    obtain ⟨f, hf, hA⟩ := lit175 a hFr
    rw [hf] at hS0 hS1 hS4 hS5 hS6
    rw [hS0, hS1, hS4, hS5, hS6] at hA
    clear hf hFr hS0 hS1 hS4 hS5 hS6
    subst hA
    have HS0 := Lib.hid hs0
    clear hs0 c0 c1 hmn
    obtain ⟨gs, hgs1, hgs2, hrow⟩ := H.out.r
    have HGL := Lib.hid hgs1
    have HGS := Lib.hid hgs2
    have HRW := Lib.hid hrow
    clear hgs1 hgs2 hrow
    have hlz : (d.R.length : Int) ≤ 10000000000 := by omega
    have hly : (0 : Int) ≤ (d.R.length : Int) := by omega
    obtain ⟨L, hL⟩ : ∃ L, d.R.length = L := ⟨_, rfl⟩
    rw [hL] at c2 hlz hly hlen HGL HRW
    have HL := Lib.hid hL
    rw [hL] at HA
    clear hL
    go_upto_block 4 with fail
    refine wp_cut (fun a wx => ∃ (x : Int), Below w.heap.size w wx ∧ (∀ c, tlook d (r : Int) = some c → x = if 0 ≤ m then m else c) ∧ Fr 175 a ∧ Sl a 0 = .pointer (some ⟨b, 0, none⟩) ∧ Sl a 1 = .int .i32 (r : Int) ∧ Sl a 4 = .int .i32 x ∧ Sl a 5 = .bool (tlook d (r : Int)).isSome ∧ Sl a 6 = .bool false) ?rest4 ?first4
    case first4 =>
      intro J4 K4 hJ4 hK4
      go_wp2_with fail
      refine wp_loop_ghost_k (fun k a wr => w = wr ∧ k ≤ L ∧ tlook d (r : Int) = rl d.R k (r : Int) ∧ Fr 175 a ∧ Sl a 0 = .pointer (some ⟨b, 0, none⟩) ∧ Sl a 1 = .int .i32 (r : Int) ∧ Sl a 4 = .int .i32 0 ∧ Sl a 5 = .bool false ∧ Sl a 6 = .bool false ∧ Sl a 9 = .slice A L cap ∧ Sl a 10 = .int .i64 ((k : Int) - 1)) L ?atStart ?round
      case atStart => exact ⟨rfl, Nat.le_refl _, by unfold tlook; rw [HS0.out, HL.out], ⟨rfl, rfl⟩, rfl, rfl, rfl, rfl, rfl, rfl, rfl⟩
      case round =>
      intro k a wr hinv J K hJ hK
      obtain ⟨rfl, hk, hlk, hFr, hS0, hS1, hS4, hS5, hS6, hS9, hS10⟩ := hinv
      have HLK := Lib.hid hlk
      clear hlk
      by_cases hk0 : k = 0
      · subst hk0
        obtain ⟨f, hf, hA⟩ := lit175 a hFr
        rw [hf] at hS0 hS1 hS4 hS5 hS6 hS9 hS10
        rw [hS0, hS1, hS4, hS5, hS6, hS9, hS10] at hA
        clear hf hFr hS0 hS1 hS4 hS5 hS6 hS9 hS10
        subst hA
        have hm1 : ((0 : Nat) : Int) - 1 = -1 := by omega
        rw [hm1]
        clear hm1
        go_wp2_with fail
        refine Met.intro ?_
        go_step
        exact ⟨0, Below.refl _ _, (fun c hc => by rw [HLK.out] at hc; cases hc), ⟨rfl, rfl⟩, rfl, rfl, rfl, by rw [HLK.out]; rfl, rfl⟩
      obtain ⟨j, hj⟩ : ∃ j, k = j + 1 := ⟨k - 1, by omega⟩
      subst hj
      clear hk0
      have hm1 : ((j + 1 : Nat) : Int) - 1 = (j : Int) := by omega
      rw [hm1] at hS10
      clear hm1
      obtain ⟨f, hf, hA⟩ := lit175 a hFr
      rw [hf] at hS0 hS1 hS4 hS5 hS6 hS9 hS10
      rw [hS0, hS1, hS4, hS5, hS6, hS9, hS10] at hA
      clear hf hFr hS0 hS1 hS4 hS5 hS6 hS9 hS10
      subst hA
      obtain ⟨g0, rfl⟩ := HA.out (by omega)
      have hjz : (0 : Int) ≤ (j : Int) := by omega
      have hjl : (j : Int) < (L : Int) := by omega
      obtain ⟨x, hx⟩ : ∃ x, d.R[j]? = some x := ⟨_, List.getElem?_eq_getElem (by rw [HL.out]; omega)⟩
      obtain ⟨g, hg⟩ : ∃ g, gs[j]? = some g := ⟨_, List.getElem?_eq_getElem (by rw [HGL.out]; omega)⟩
      have hxr := HGS.out j g x hg hx
      have hxw : w.heap[g]? = some (.cells #[.int .i32 x.1, .int .i32 x.2.1, .int .i32 x.2.2.1, .int .i32 x.2.2.2] 90 (0, 0)) := hxr.2
      have e0 : w.cell? ⟨g, 0, none⟩ = some (.int .i32 x.1) := by simp [World.cell?, hxw]
      have e1 : w.cell? ⟨g, 1, none⟩ = some (.int .i32 x.2.1) := by simp [World.cell?, hxw]
      have e2 : w.cell? ⟨g, 2, none⟩ = some (.int .i32 x.2.2.1) := by simp [World.cell?, hxw]
      have e3 : w.cell? ⟨g, 3, none⟩ = some (.int .i32 x.2.2.2) := by simp [World.cell?, hxw]
      have cr : w.cell? ⟨g0, j, none⟩ = some (.pointer (some ⟨g, 0, none⟩)) := by
        have e := HRW.out.cellAt j (by omega)
        rw [e, List.getElem?_map, hg]
        rfl
      obtain ⟨x0, x1, x2, x3, x4, x5, x6, x7⟩ := HD.out.2 x (List.mem_of_getElem? hx)
      have HX := Lib.hid hx
      clear hx hg hxr hxw
      have hin : ¬ (x.1 ≤ (r : Int) ∧ (r : Int) ≤ x.2.1) → Hid (tlook d (r : Int) = rl d.R j (r : Int)) := fun hn => Lib.hid (by rw [HLK.out]; exact rl_out HX.out hn)
      by_cases h1 : x.1 ≤ (r : Int)
      · by_cases h2 : (r : Int) ≤ x.2.1
        · have hlo : tlook d (r : Int) = some (rval x (r : Int)) := by rw [HLK.out]; exact rl_in HX.out ⟨h1, h2⟩
          by_cases hm0 : 0 ≤ m
          · obtain ⟨c, hc⟩ : ∃ c, rval x (r : Int) = c := ⟨_, rfl⟩
            rw [hc] at hlo
            have HC := Lib.hid hlo
            clear hlo hc hin
            go_wp2_with fail
            refine Met.intro ?_
            go_step
            exact ⟨_, by first | exact Below.refl _ _ | exact drewN_below _ _ | exact (drewN_below _ _).trans (drewN_below _ _) | exact ((drewN_below _ _).trans (drewN_below _ _)).trans (drewN_below _ _), (fun c' hc' => by have e := HC.out; rw [hc'] at e; injection e with e; rw [e]; first | rw [if_pos (show 0 ≤ m by omega)] | rw [if_neg (show ¬ 0 ≤ m by omega)]), ⟨rfl, rfl⟩, rfl, rfl, rfl, by rw [HC.out]; rfl, rfl⟩
          have HLO := Lib.hid hlo
          clear hlo hin
          by_cases h3 : x.2.2.1 < x.2.2.2
          · have HC : Hid (tlook d (r : Int) = some (x.2.2.1 + (r : Int) - x.1)) := Lib.hid (by rw [HLO.out]; unfold rval; rw [if_pos h3])
            have b0 : (-2147483648 : Int) ≤ x.2.2.1 + (r : Int) := by omega
            have b1 : x.2.2.1 + (r : Int) ≤ 2147483647 := by omega
            have b2 : (-2147483648 : Int) ≤ x.2.2.1 + (r : Int) - x.1 := by omega
            have b3 : x.2.2.1 + (r : Int) - x.1 ≤ 2147483647 := by omega
            have h3z : decide (x.2.2.1 < x.2.2.2) = true := decide_eq_true h3
            go_upto_region 25 with fail
            go_quiet (fail)
            go_upto_region 26 with fail
            go_quiet (fail)
            go_wp2_with fail
            refine Met.intro ?_
            go_step
            exact ⟨_, by first | exact Below.refl _ _ | exact drewN_below _ _ | exact (drewN_below _ _).trans (drewN_below _ _) | exact ((drewN_below _ _).trans (drewN_below _ _)).trans (drewN_below _ _), (fun c' hc' => by have e := HC.out; rw [hc'] at e; injection e with e; rw [e]; first | rw [if_pos (show 0 ≤ m by omega)] | rw [if_neg (show ¬ 0 ≤ m by omega)]), ⟨rfl, rfl⟩, rfl, rfl, rfl, by rw [HC.out]; rfl, rfl⟩
          have h3z : decide (x.2.2.1 < x.2.2.2) = false := decide_eq_false h3
          by_cases h4 : x.2.2.1 > x.2.2.2
          · have HC : Hid (tlook d (r : Int) = some (x.2.2.1 - (r : Int) + x.1)) := Lib.hid (by rw [HLO.out]; unfold rval; rw [if_neg h3, if_pos h4])
            have h4z : decide (x.2.2.2 < x.2.2.1) = true := decide_eq_true h4
            have b0 : (-2147483648 : Int) ≤ x.2.2.1 - (r : Int) := by omega
            have b1 : x.2.2.1 - (r : Int) ≤ 2147483647 := by omega
            have b2 : (-2147483648 : Int) ≤ x.2.2.1 - (r : Int) + x.1 := by omega
            have b3 : x.2.2.1 - (r : Int) + x.1 ≤ 2147483647 := by omega
            go_upto_region 25 with fail
            go_quiet (fail)
            go_upto_region 27 with fail
            go_quiet (fail)
            go_upto_region 28 with fail
            go_quiet (fail)
            go_wp2_with fail
            refine Met.intro ?_
            go_step
            exact ⟨_, by first | exact Below.refl _ _ | exact drewN_below _ _ | exact (drewN_below _ _).trans (drewN_below _ _) | exact ((drewN_below _ _).trans (drewN_below _ _)).trans (drewN_below _ _), (fun c' hc' => by have e := HC.out; rw [hc'] at e; injection e with e; rw [e]; first | rw [if_pos (show 0 ≤ m by omega)] | rw [if_neg (show ¬ 0 ≤ m by omega)]), ⟨rfl, rfl⟩, rfl, rfl, rfl, by rw [HC.out]; rfl, rfl⟩
          have HC : Hid (tlook d (r : Int) = some x.2.2.1) := Lib.hid (by rw [HLO.out]; unfold rval; rw [if_neg h3, if_neg h4])
          have h4z : decide (x.2.2.2 < x.2.2.1) = false := decide_eq_false h4
          go_upto_region 25 with fail
          go_quiet (fail)
          go_upto_region 27 with fail
          go_quiet (fail)
          go_wp2_with fail
          refine Met.intro ?_
          go_step
          exact ⟨_, by first | exact Below.refl _ _ | exact drewN_below _ _ | exact (drewN_below _ _).trans (drewN_below _ _) | exact ((drewN_below _ _).trans (drewN_below _ _)).trans (drewN_below _ _), (fun c' hc' => by have e := HC.out; rw [hc'] at e; injection e with e; rw [e]; first | rw [if_pos (show 0 ≤ m by omega)] | rw [if_neg (show ¬ 0 ≤ m by omega)]), ⟨rfl, rfl⟩, rfl, rfl, rfl, by rw [HC.out]; rfl, rfl⟩
        · skip
          have HLK2 := hin (by omega)
          clear hin
          go_wp2_with fail
          refine Handed.intro j (by omega) ?_
          go_step
          exact ⟨rfl, by omega, HLK2.out, ⟨rfl, rfl⟩, rfl, rfl, rfl, rfl, rfl, rfl, rfl⟩
      · skip
        have HLK2 := hin (by omega)
        clear hin
        go_wp2_with fail
        refine Handed.intro j (by omega) ?_
        go_step
        exact ⟨rfl, by omega, HLK2.out, ⟨rfl, rfl⟩, rfl, rfl, rfl, rfl, rfl, rfl, rfl⟩
    case rest4 =>
    intro a wx hcut
    obtain ⟨x, hb, hx, hFr, hS0, hS1, hS4, hS5, hS6⟩ := hcut
    obtain ⟨f, hf, hA⟩ := lit175 a hFr
    rw [hf] at hS0 hS1 hS4 hS5 hS6
    rw [hS0, hS1, hS4, hS5, hS6] at hA
    clear hf hFr hS0 hS1 hS4 hS5 hS6
    subst hA
    have HX := Lib.hid hx
    have HB := Lib.hid hb
    clear hx hb
    go_wp2_with fail
    refine Met.intro ?_
    go_step
    exact ⟨x, HB.out, HX.out, ⟨rfl, rfl⟩, rfl, rfl, rfl, rfl, rfl⟩
  case rest0 =>
  intro a wx hcut
  obtain ⟨x, hb, hx, hFr, hS0, hS1, hS4, hS5, hS6⟩ := hcut
  obtain ⟨f, hf, hA⟩ := lit175 a hFr
  rw [hf] at hS0 hS1 hS4 hS5 hS6
  rw [hS0, hS1, hS4, hS5, hS6] at hA
  clear hf hFr hS0 hS1 hS4 hS5 hS6
  subst hA
  have hlt : b < w.heap.size := lt_of_block H.out.blk
  have c3' : wx.cell? ⟨b, 3, none⟩ = some (.int .i32 m) := (hb.cell (p := ⟨b, 3, none⟩) hlt).trans c3
  have c4' : wx.cell? ⟨b, 4, none⟩ = some (.bool rev) := (hb.cell (p := ⟨b, 4, none⟩) hlt).trans c4
  have c5' : wx.cell? ⟨b, 5, none⟩ = some (.bool del) := (hb.cell (p := ⟨b, 5, none⟩) hlt).trans c5
  have HX := Lib.hid hx
  have HB := Lib.hid hb
  clear hx hb c0 c1 c2 c3 c4 c5 hmn
  cases hlk : tlook d (r : Int) with
  | none =>
    have HLK := Lib.hid hlk
    clear hlk HX
    dsimp only [Option.isSome_none, Option.isSome_some]
    cases rev
    all_goals
      cases del
      all_goals
        go_wp2_with fail
        go_ret3
        exact ⟨by unfold trR; rw [HLK.out]; rfl, HB.out⟩
  | some c =>
    have HLK := Lib.hid hlk
    have hxc : x = if 0 ≤ m then m else c := HX.out c hlk
    have HXC := Lib.hid hxc
    clear hxc
    clear hlk HX
    dsimp only [Option.isSome_none, Option.isSome_some]
    cases rev
    all_goals
      cases del
      all_goals
        go_wp2_with fail
        go_ret3
        exact ⟨by unfold trR; rw [HLK.out]; first | rfl | (rw [HXC.out]; rfl), HB.out⟩
end Go.Proofs.YtdgaehkfdaacjaaDoor
