/- The walk of spec.Squeeze. -/
import Derived.Test.YtdgaehkfdaacjaaDoorSetHas
import Derived.Test.YtdgaehkfdaacjaaDoorPatAny
import Derived.Test.YtdgaehkfdaacjaaDoorSqLaw
import Derived.Deep.LoopGhost
set_option linter.unusedVariables false
namespace Go.Proofs.YtdgaehkfdaacjaaDoor
open Go.RowKit Plain

def pv (l : List Nat) : Nat → Option Nat
  | 0 => none
  | k + 1 => l[k]?
theorem sqR_drop {q : Nat → Bool} {r : Nat} (rs : List Nat) (h : q r = true) : sqR q (some r) (r :: rs) = sqR q (some r) rs := by rw [sqR, if_pos ⟨rfl, h⟩]
theorem sqR_keep {q : Nat → Bool} {prev : Option Nat} {r : Nat} (rs : List Nat) (h : ¬ (prev = some r ∧ q r = true)) : sqR q prev (r :: rs) = r :: sqR q (some r) rs := by rw [sqR, if_neg h]
def sqQ (P : ByteArray) (L : List Nat) (nt : Bool) (r : Nat) : Bool := decide (P.data.toList = []) || inB L nt r
/-- the answer of spec.Squeeze -/
def SqAns (P s : ByteArray) (e : Ending) : Prop :=
  (∃ z, e = .returned (.tuple #[.string z, .int .i64 2])) ∨ ∃ L nt, e = .returned (.tuple #[.string (textOf (sqR (sqQ P L nt) none (rnsL s.data.toList))), .int .i64 1]) ∧ Lib.validD P.data.toList = true ∧ Lib.validD s.data.toList = true ∧ patS false (rnsL P.data.toList) = some (L, nt)
set_option maxHeartbeats 16000000 in
set_option maxRecDepth 100000 in
theorem specSqueeze_any (s P : ByteArray) (w : World) (hs : s.size ≤ 2000) (hP : P.size ≤ 2000) (hT : Tabs w) :
    Calls Tryd.prog 14 #[.string s, .string P] w fun e w' => SqAns P s e ∧ Below w.heap.size w w' := by
  obtain ⟨i0, hi, hz0, hz1, hz2⟩ := info_parts infoRune
  have HPt := Lib.hid (fun w hT => pattern_any P false w hP hT)
  obtain ⟨vs, hvs⟩ : ∃ vs, Lib.validD s.data.toList = vs := ⟨_, rfl⟩
  have HS := Lib.hid (fun w g hg hT => set_lit w g hg s hs hT vs hvs)
  have HV := Lib.hid hvs
  clear hvs hP
  go_enter Tryd.func14, Tryd.ntmps14
  go_wp2_with (go_at_call 25; with_reducible refine (HPt.out _ hT).mono ?_)
  rintro e w1 ⟨h, hb⟩
  rcases h with ⟨⟨A, n, c, b, rfl⟩, _⟩ | ⟨L, nt, A, cap, rfl, hvp, hpat, b0, hb0, hown⟩
  · dsimp only
    go_wp2
    go_ret2
    exact ⟨.inl ⟨_, rfl⟩, hb.alloc hb.size _⟩
  · dsimp only
    have HPA := Lib.hid hpat
    have HVP := Lib.hid hvp
    have hlim := row_len hown
    obtain ⟨W2, hW2⟩ : ∃ W2, w1.alloc (.cells #[.slice A L.length cap, .bool nt] 40) = W2 := ⟨_, rfl⟩
    have hB2 : Below w.heap.size w W2 := hW2 ▸ hb.alloc hb.size _
    have hX2 : W2.heap[w1.heap.size]? = some (.cells #[.slice A L.length cap, .bool nt] 40 (0, 0)) := hW2 ▸ heap_alloc_new w1 _
    have hO2 : W2.ownsRow b0 21 1 (.slice A L.length cap) L.length (L.map rcell) := hW2 ▸ hown.alloc _
    have hz2 : W2.heap.size = w1.heap.size + 1 := by rw [← hW2]; simp
    have HZ2 := Lib.hid hz2
    have HB2 := Lib.hid hB2
    have HX2 := Lib.hid hX2
    have HO2 := Lib.hid hO2
    have hT2 := hT.below hB2
    clear hb hb0 hown hpat hvp hB2 hX2 hO2 hz2
    cases vs with
    | false =>
      go_wp2_with (go_at_call 30; (with_reducible refine (HS.out _ _ rfl hT2).mono ?_); rintro e W3 ⟨rfl, hb3⟩; dsimp only)
      have hB3 := bthen HB2.out hb3
      go_wp2
      go_ret2
      exact ⟨.inl ⟨_, rfl⟩, hB3⟩
    | true =>
      go_wp2_with (go_at_call 30; (with_reducible refine (HS.out _ _ rfl hT2).mono ?_); rintro e W3 ⟨rfl, hb3⟩; dsimp only)
      have hB3 := bthen HB2.out hb3
      have hX3 : W3.heap[w1.heap.size]? = some (.cells #[.slice A L.length cap, .bool nt] 40 (0, 0)) := (hb3.block _ (by rw [HZ2.out]; omega)).trans HX2.out
      have hO3 : W3.ownsRow b0 21 1 (.slice A L.length cap) L.length (L.map rcell) := row_keep HO2.out fun g hg => by
        refine hb3.block g ?_
        obtain ⟨_, cs, hcs⟩ := row_is HO2.out hg
        exact (Array.getElem?_eq_some_iff.1 hcs).1
      have HX3 := Lib.hid hX3
      have HO3 := Lib.hid hO3
      have HB3 := Lib.hid hB3
      have hxlt := lt_of_block hX3
      clear hX3 hO3 hb3 hB3
      clear hW2 HX2 HO2 HZ2 HB2 hT2
      obtain ⟨Ls, hLs⟩ : ∃ Ls, rnsL s.data.toList = Ls := ⟨_, rfl⟩
      have hLle := rnsOf_length s.data.toList
      rw [← Lib.size_eq] at hLle
      have hLr := rnsOf_le s.data.toList
      have hAr : Conv.runesFrom s s.size 0 #[] = (Ls.map rcell).toArray := by
        rw [convRunes s s.size 0 #[] (by omega), ← hLs]
        simp
        rfl
      have hcv := run_runes_of_string (P := Tryd.prog) W3 9 33 21 s Tryd.underlying9 Tryd.underlying33 Tryd.underlying21 (by have := size_runesFrom s s.size 0 #[]; simp at this; omega)
      rw [hAr, show ((Ls.map rcell).toArray).size = Ls.length by simp] at hcv
      have hrow : RowR W3.heap.size Ls (W3.drew.alloc (.cells ((Ls.map rcell).toArray ++ Array.replicate (grownCap W3 Ls.length 0 21 - Ls.length) (.int .i32 0)) 21)) := ⟨_, heap_alloc_new W3.drew _⟩
      have hB4 : Below W3.heap.size W3 (W3.drew.alloc (.cells ((Ls.map rcell).toArray ++ Array.replicate (grownCap W3 Ls.length 0 21 - Ls.length) (.int .i32 0)) 21)) := (Below.refl _ W3).drew.alloc (Nat.le_refl _) _
      have hcap := grownCap_ge W3 Ls.length 0 21
      generalize W3.drew.alloc (.cells ((Ls.map rcell).toArray ++ Array.replicate (grownCap W3 Ls.length 0 21 - Ls.length) (.int .i32 0)) 21) = W4 at hcv hrow hB4
      generalize grownCap W3 Ls.length 0 21 = CAP at hcv hcap
      rw [show rnsOf s.data.toList = Ls from hLs] at hLle hLr
      have HLS := Lib.hid hLs
      have HLR := Lib.hid hLr
      obtain ⟨n, hn⟩ : ∃ n, Ls.length = n := ⟨_, rfl⟩
      rw [hn] at hcv hcap hLle
      have HN := Lib.hid hn
      have HROW := Lib.hid hrow
      have HB4 := Lib.hid hB4
      obtain ⟨RR, hRR⟩ : ∃ RR, W3.heap.size = RR := ⟨_, rfl⟩
      rw [hRR] at hcv HROW
      clear hn hrow hB4 hAr hLs hLr hRR
      obtain ⟨q, hq⟩ : ∃ q, sqQ P L nt = q := ⟨_, rfl⟩
      have HQ := Lib.hid hq
      clear hq
      go_wp2
      rw [hcv]
      go_wp2
      go_loopg [8, 29] n (fun gh ov iv wr => ∃ (k : Nat) (O : List Nat), iv = .int .i64 k ∧ k ≤ n ∧ gh = n - k ∧ wr.ownsRow W4.heap.size 21 1 ov O.length (O.map rcell) ∧ O.length ≤ k ∧ Hid (O ++ sqR q (pv Ls k) (Ls.drop k) = sqR q none Ls) ∧ Hid (Below W4.heap.size W4 wr))
      case atStart => exact ⟨0, [], rfl, by omega, by omega, World.ownsRow_nil _ _ _ _, by simp, Lib.hid rfl, Lib.hid (Below.refl _ _)⟩
      case round =>
        obtain ⟨k, O, rfl, hkn, rfl, how, hOk, HC, HBR⟩ := hrel
        obtain ⟨A2, kc2, rfl⟩ := row_shape how
        have HOW := Lib.hid how
        clear how
        by_cases hlt : k < n
        · have hltz : (k : Int) < (n : Int) := by omega
          obtain ⟨x, hx⟩ : ∃ x, Ls[k]? = some x := ⟨_, List.getElem?_eq_getElem (by rw [HN.out]; exact hlt)⟩
          have hrw : RowR RR Ls wr := HROW.out.keep (HBR.out.block _ HROW.out.lt)
          have hcell := hrw.cell hx
          have HDR : Hid (Ls.drop k = x :: Ls.drop (k + 1)) := Lib.hid (by
            obtain ⟨h1, h2⟩ := List.getElem?_eq_some_iff.1 hx
            rw [← h2]
            exact List.drop_eq_getElem_cons h1)
          have HPV : Hid (pv Ls (k + 1) = some x) := Lib.hid hx
          have hx1 : x ≤ 1114111 := HLR.out x (List.mem_of_getElem? hx)
          have hWr : W4.heap.size ≤ wr.heap.size := HBR.out.size
          have HW34 : Hid (W3.heap.size ≤ W4.heap.size) := Lib.hid HB4.out.size
          have hxc : wr.heap[w1.heap.size]? = some (.cells #[.slice A L.length cap, .bool nt] 40 (0, 0)) := ((HBR.out.block _ (Nat.lt_of_lt_of_le hxlt HW34.out)).trans (HB4.out.block _ hxlt)).trans HX3.out
          obtain ⟨c0, c1, _, _⟩ := two_cells hxc
          have HOV : Hid (wr.ownsRow b0 21 1 (.slice A L.length cap) L.length (L.map rcell)) := Lib.hid (row_keep HO3.out fun g hg => by
            obtain ⟨_, cs, hcs⟩ := row_is HO3.out hg
            have hg1 := (Array.getElem?_eq_some_iff.1 hcs).1
            exact (HBR.out.block g (Nat.lt_of_lt_of_le hg1 HW34.out)).trans (HB4.out.block g hg1))
          clear hxc
          by_cases hk0 : k = 0
          · have hk0z : ¬ (0 : Int) < (k : Int) := by omega
            have HK : Hid (¬ (pv Ls k = some x ∧ q x = true)) := Lib.hid (fun y => by rw [hk0] at y; cases y.1)
            have HGO : Hid (O ++ [x] ++ sqR q (pv Ls (k + 1)) (Ls.drop (k + 1)) = sqR q none Ls) := Lib.hid (by
              have h1 := HC.out
              rw [HDR.out, sqR_keep _ HK.out] at h1
              rw [HPV.out, List.append_assoc]
              exact h1)
            clear hk0
            go_wp2_with (at_builtin; refine wpList_append_own_at _ rfl _ _ 33 rfl W4.heap.size 21 i0 (.int .i32 0) 1 4 Tryd.underlying33 hi hz0 hz1 hz2 rfl (by decide) (.slice A2 O.length kc2) O.length (O.map rcell) rfl (HOW.out.alloc _) ⟨wr.heap.size, 0, none⟩ 1 1 [.int .i32 (x : Int)] rfl rfl (cell_one_new _ _ _) (by intro u hu; simp at hu; subst hu; rfl) (by unfold maxLen; omega) (by omega) (by simp; omega) ?_)
            intro v' w2 hown2 hgr _ _
            obtain ⟨A3, kc3, rfl⟩ := row_shape hown2
            have HROW2 : Hid (w2.ownsRow W4.heap.size 21 1 (.slice A3 (O.length + 1) kc3) (O ++ [x]).length ((O ++ [x]).map rcell)) := Lib.hid (by rw [List.length_append, List.map_append]; exact hown2)
            have HB10 := Lib.hid ((HBR.out.alloc (by omega) _).grown hgr (by simp; omega) (fun k hk => by have := (row_is HOW.out hk).1; omega))
            clear hgr hown2
            go_wp2
            go_roundg (n - (k + 1))
            case measure => omega
            case rel => exact ⟨k + 1, O ++ [x], by go_num, by omega, rfl, HROW2.out, by simp; omega, HGO, HB10⟩
          · have hk0z : (0 : Int) < (k : Int) := by omega
            obtain ⟨y, hy⟩ : ∃ y, Ls[k - 1]? = some y := ⟨_, List.getElem?_eq_getElem (by rw [HN.out]; omega)⟩
            have hcelly := hrw.cell hy
            have HY0 : Hid (pv Ls k = some y) := Lib.hid (by
              obtain ⟨j, rfl⟩ : ∃ j, k = j + 1 := ⟨k - 1, by omega⟩
              exact hy)
            have hkz1 : (0 : Int) ≤ (k : Int) - 1 := by omega
            have hkz2 : (k : Int) - 1 < (n : Int) := by omega
            have hkz3 : ((k : Int) - 1).toNat = k - 1 := by omega
            clear hy
            by_cases hyx : y = x
            · have hyz : ((y : Int) == (x : Int)) = true := by rw [beq_iff_eq]; omega
              have HY : Hid (pv Ls k = some x) := Lib.hid (hyx ▸ HY0.out)
              clear hyx
              by_cases hp0 : P.size = 0
              · have hpe : P.toList.isEmpty = true := by
                  rw [ByteArray.toList_eq, List.eq_nil_of_length_eq_zero (show P.data.toList.length = 0 by rw [← Lib.size_eq]; exact hp0)]
                  rfl
                have HQX : Hid (q x = true) := Lib.hid (by
                  rw [← HQ.out]
                  unfold sqQ
                  rw [decide_eq_true (List.eq_nil_of_length_eq_zero (show P.data.toList.length = 0 by rw [← Lib.size_eq]; exact hp0))]
                  rfl)
                have HGO : Hid (O ++ sqR q (pv Ls (k + 1)) (Ls.drop (k + 1)) = sqR q none Ls) := Lib.hid (by
                  have h1 := HC.out
                  rw [HDR.out, HY.out, sqR_drop _ HQX.out] at h1
                  rw [HPV.out]
                  exact h1)
                clear hp0
                go_wp2_with fail
                go_roundg (n - (k + 1))
                case measure => omega
                case rel => exact ⟨k + 1, O, by go_num, by omega, rfl, HOW.out, by omega, HGO, HBR⟩
              · have hpn : P.data.toList ≠ [] := fun e => hp0 (by rw [Lib.size_eq, e]; rfl)
                have hpe : P.toList.isEmpty = false := by
                  rw [ByteArray.toList_eq]
                  cases h9 : P.data.toList with
                  | nil => exact absurd h9 hpn
                  | cons a l => rfl
                have HQI : Hid (q x = inB L nt x) := Lib.hid (by
                  rw [← HQ.out]
                  unfold sqQ
                  rw [decide_eq_false hpn]
                  rfl)
                obtain ⟨bi, hbi⟩ : ∃ bi, inB L nt x = bi := ⟨_, rfl⟩
                have HH := Lib.hid (setHas_any L nt x A cap b0 wr HOV.out hlim bi hbi)
                have HBI := Lib.hid (HQI.out.trans hbi)
                clear hbi hpn hp0
                cases bi with
                | true =>
                  have HQX := HBI
                  have HGO : Hid (O ++ sqR q (pv Ls (k + 1)) (Ls.drop (k + 1)) = sqR q none Ls) := Lib.hid (by
                    have h1 := HC.out
                    rw [HDR.out, HY.out, sqR_drop _ HQX.out] at h1
                    rw [HPV.out]
                    exact h1)
                  go_wp2_with (go_at_call 31; with_reducible refine HH.out.mono ?_)
                  rintro e V2 ⟨rfl, hbv⟩
                  dsimp only
                  have HROWV : Hid (V2.ownsRow W4.heap.size 21 1 (.slice A2 O.length kc2) O.length (O.map rcell)) := Lib.hid (row_keep HOW.out fun g hg => by
                    refine hbv.block g ?_
                    obtain ⟨_, cs, hcs⟩ := row_is HOW.out hg
                    exact (Array.getElem?_eq_some_iff.1 hcs).1)
                  have HBV := Lib.hid (bthen HBR.out hbv)
                  have hV2 : W4.heap.size ≤ V2.heap.size := HBV.out.size
                  clear hbv
                  go_wp2_with fail
                  go_roundg (n - (k + 1))
                  case measure => omega
                  case rel => exact ⟨k + 1, O, by go_num, by omega, rfl, HROWV.out, by omega, HGO, HBV⟩
                | false =>
                  have HK : Hid (¬ (pv Ls k = some x ∧ q x = true)) := Lib.hid (fun z => by rw [HBI.out] at z; cases z.2)
                  have HGO : Hid (O ++ [x] ++ sqR q (pv Ls (k + 1)) (Ls.drop (k + 1)) = sqR q none Ls) := Lib.hid (by
                    have h1 := HC.out
                    rw [HDR.out, sqR_keep _ HK.out] at h1
                    rw [HPV.out, List.append_assoc]
                    exact h1)
                  go_wp2_with (go_at_call 31; with_reducible refine HH.out.mono ?_)
                  rintro e V2 ⟨rfl, hbv⟩
                  dsimp only
                  have HROWV : Hid (V2.ownsRow W4.heap.size 21 1 (.slice A2 O.length kc2) O.length (O.map rcell)) := Lib.hid (row_keep HOW.out fun g hg => by
                    refine hbv.block g ?_
                    obtain ⟨_, cs, hcs⟩ := row_is HOW.out hg
                    exact (Array.getElem?_eq_some_iff.1 hcs).1)
                  have HBV := Lib.hid (bthen HBR.out hbv)
                  have hV2 : W4.heap.size ≤ V2.heap.size := HBV.out.size
                  clear hbv
                  go_wp2_with (at_builtin; refine wpList_append_own_at _ rfl _ _ 33 rfl W4.heap.size 21 i0 (.int .i32 0) 1 4 Tryd.underlying33 hi hz0 hz1 hz2 rfl (by decide) (.slice A2 O.length kc2) O.length (O.map rcell) rfl (HROWV.out.alloc _) ⟨V2.heap.size, 0, none⟩ 1 1 [.int .i32 (x : Int)] rfl rfl (cell_one_new _ _ _) (by intro u hu; simp at hu; subst hu; rfl) (by unfold maxLen; omega) (by omega) (by simp; omega) ?_)
                  intro v' w2 hown2 hgr _ _
                  obtain ⟨A3, kc3, rfl⟩ := row_shape hown2
                  have HROW2 : Hid (w2.ownsRow W4.heap.size 21 1 (.slice A3 (O.length + 1) kc3) (O ++ [x]).length ((O ++ [x]).map rcell)) := Lib.hid (by rw [List.length_append, List.map_append]; exact hown2)
                  have HB10 := Lib.hid ((HBV.out.alloc (by omega) _).grown hgr (by simp; omega) (fun k hk => by have := (row_is HROWV.out hk).1; omega))
                  clear hgr hown2
                  go_wp2
                  go_roundg (n - (k + 1))
                  case measure => omega
                  case rel => exact ⟨k + 1, O ++ [x], by go_num, by omega, rfl, HROW2.out, by simp; omega, HGO, HB10⟩
            · have hyz : ((y : Int) == (x : Int)) = false := by rw [beq_eq_false_iff_ne]; omega
              have HK : Hid (¬ (pv Ls k = some x ∧ q x = true)) := Lib.hid (fun z => by rw [HY0.out] at z; exact hyx (Option.some.inj z.1))
              have HGO : Hid (O ++ [x] ++ sqR q (pv Ls (k + 1)) (Ls.drop (k + 1)) = sqR q none Ls) := Lib.hid (by
                have h1 := HC.out
                rw [HDR.out, sqR_keep _ HK.out] at h1
                rw [HPV.out, List.append_assoc]
                exact h1)
              clear hyx
              go_wp2_with (at_builtin; refine wpList_append_own_at _ rfl _ _ 33 rfl W4.heap.size 21 i0 (.int .i32 0) 1 4 Tryd.underlying33 hi hz0 hz1 hz2 rfl (by decide) (.slice A2 O.length kc2) O.length (O.map rcell) rfl (HOW.out.alloc _) ⟨wr.heap.size, 0, none⟩ 1 1 [.int .i32 (x : Int)] rfl rfl (cell_one_new _ _ _) (by intro u hu; simp at hu; subst hu; rfl) (by unfold maxLen; omega) (by omega) (by simp; omega) ?_)
              intro v' w2 hown2 hgr _ _
              obtain ⟨A3, kc3, rfl⟩ := row_shape hown2
              have HROW2 : Hid (w2.ownsRow W4.heap.size 21 1 (.slice A3 (O.length + 1) kc3) (O ++ [x]).length ((O ++ [x]).map rcell)) := Lib.hid (by rw [List.length_append, List.map_append]; exact hown2)
              have HB10 := Lib.hid ((HBR.out.alloc (by omega) _).grown hgr (by simp; omega) (fun k hk => by have := (row_is HOW.out hk).1; omega))
              clear hgr hown2
              go_wp2
              go_roundg (n - (k + 1))
              case measure => omega
              case rel => exact ⟨k + 1, O ++ [x], by go_num, by omega, rfl, HROW2.out, by simp; omega, HGO, HB10⟩
        · have hltz : ¬ (k : Int) < (n : Int) := by omega
          have hcv2 := conv_own HOW.out
          have hO : O = sqR q none Ls := by
            have h1 := HC.out
            rw [List.drop_eq_nil_of_le (by rw [HN.out]; omega), sqR, List.append_nil] at h1
            exact h1
          have hE : O = sqR (sqQ P L nt) none (rnsL s.data.toList) := by rw [HQ.out, HLS.out]; exact hO
          have hT2 := congrArg textOf hE
          rw [hT2] at hcv2
          have HB9 := Lib.hid (bthen HB3.out (bthen HB4.out HBR.out))
          clear hO hE hT2
          go_wp2_with fail
          go_ret2
          exact ⟨.inr ⟨L, nt, rfl, HVP.out, HV.out, HPA.out⟩, HB9.out⟩
end Go.Proofs.YtdgaehkfdaacjaaDoor
