/- The law FnExpand: a value is expanded again and again, down a chain of keys. -/
import Derived.Test.YtackciefmdiphaaGreatDoorQSim0
import Derived.Test.YtackciefmdiphaaGreatDoorRowA0
import Derived.Deep.RegionHeld3
set_option linter.unusedVariables false
namespace Go.Proofs.YtackciefmdiphaaGreatDoor
open Go.RowKit Plain Go.Maps

theorem sim_of {x : ByteArray} (h : simB x = true) : x.data.toList ≠ [] ∧ ∀ c ∈ x.data.toList, alnB c = true := simB_bare h
attribute [local go_sem ↓] Go.wp_at_zero Go.wp_at_succ
set_option maxHeartbeats 16000000 in
set_option maxRecDepth 100000 in
theorem fnExpand_walk (A : Option Addr) (n c : Nat) (l : List ByteArray) (v : ByteArray) (w : World) (hr : RowA A l w) (hn : l.length = n) (hc : n ≤ c) (hnm : n ≤ 9223372036854775807) (hv0 : v.size ≤ 140737488351232) (hT : Tabs w) :
    Calls Tryz.prog 3 #[.slice A n c, .string v] w fun e w' => e = .returned (.bool true) ∧ Below w.heap.size w w' := by
  obtain ⟨fb, hfb⟩ : ∃ b, (decide (n ≤ 2147483647) && fitsR l) = b := ⟨_, rfl⟩
  have HFI : Hid (Calls Tryz.prog 9 #[.slice A n c] w fun e w' => e = .returned (.bool fb) ∧ w = w') := Lib.hid (fits_any A n c l hn w hr hnm fb hfb)
  cases fb with
  | false =>
    go_enter Tryz.func3, Tryz.ntmps3
    go_wp2_with (go_at_call 9; (with_reducible refine HFI.out.mono ?_); rintro e w1 ⟨rfl, rfl⟩; dsimp only)
    go_ret
    exact ⟨rfl, Below.refl _ _⟩
  | true =>
  have hn2 : n ≤ 2147483647 := by
    rw [Bool.and_eq_true] at hfb
    exact of_decide_eq_true hfb.1
  have hfl : fitsR l = true := by
    rw [Bool.and_eq_true] at hfb
    exact hfb.2
  have hsum := fitsR_sum l hfl
  clear hfb
  by_cases hv : 2147483647 < v.size
  · have hzv : (2147483647 : Int) < (v.size : Int) := by omega
    go_enter Tryz.func3, Tryz.ntmps3
    go_wp2_with (go_at_call 9; (with_reducible refine HFI.out.mono ?_); rintro e w1 ⟨rfl, rfl⟩; dsimp only)
    go_ret
    exact ⟨rfl, Below.refl _ _⟩
  have hzv : ¬ (2147483647 : Int) < (v.size : Int) := by omega
  have HLD := Lib.hid (loads_any w hT)
  have HSv := Lib.hid (fun w => simple_any v w (by omega))
  obtain ⟨x, hx⟩ : ∃ x, simB v = x := ⟨_, rfl⟩
  have HX := Lib.hid hx
  rw [hx] at HSv
  obtain ⟨S, hS⟩ : ∃ S, n + sumSz l = S := ⟨_, rfl⟩
  have hSb : S ≤ 4611686018427387904 := by
    rw [hn] at hsum
    have h1 : n * 2147483647 ≤ 2147483647 * 2147483647 := Nat.mul_le_mul_right _ hn2
    omega
  have HRA := Lib.hid hr
  have HSZ : Hid (∀ y, Below w.heap.size w y → Calls Tryz.prog 12 #[.slice A n c] y fun e w' => e = .returned (.int .i64 (S : Int)) ∧ y = w') := Lib.hid (fun y hy => sizeA_any A n c l hn y (HRA.out.below hy) S hS hSb)
  have HSS := Lib.hid hS
  have HNN := Lib.hid hn
  have HTB := Lib.hid hT
  obtain ⟨V, hV⟩ : ∃ V, v.size = V := ⟨_, rfl⟩
  have HV := Lib.hid hV
  rw [hV] at hzv hv
  clear hx hr hS hn hT hsum hfl hv0
  by_cases hgo : (n ≠ 0 ∧ n ≤ 30) ∧ x = true ∧ S + V ≤ 600
  · obtain ⟨⟨hn0, hn30⟩, rfl, h600⟩ := hgo
    have hz0 : ((n : Int) == (0 : Int)) = false := by rw [beq_eq_false_iff_ne]; omega
    have hz30 : ¬ (30 : Int) < (n : Int) := by omega
    have hz600 : ¬ (600 : Int) < (S : Int) + (V : Int) := by omega
    go_enter Tryz.func3, Tryz.ntmps3
    go_wp2_with (first
      | (go_at_call 9; (with_reducible refine HFI.out.mono ?_); rintro e w1 ⟨rfl, rfl⟩; dsimp only)
      | (go_at_call 10; (with_reducible refine HLD.out.mono ?_); rintro e w1 ⟨rfl, hb1⟩; have HB1 := Lib.hid hb1; clear hb1; dsimp only)
      | (go_at_call 11; (with_reducible refine (HSv.out _).mono ?_); rintro e w2 ⟨rfl, rfl⟩; dsimp only)
      | (go_at_call 12; (with_reducible refine (HSZ.out _ HB1.out).mono ?_); rintro e w2 ⟨rfl, rfl⟩; dsimp only))
    clear hz0 hz30 hz600 hzv
    have HB2 := HB1
    have hV6 : v.size ≤ 600 := by have := HV.out; omega
    have hx6 : ∀ y ∈ l, y.size ≤ 600 := fun y hy => by
      obtain ⟨j, hj⟩ := List.getElem?_of_mem hy
      have := sumSz_mem hj
      have := HSS.out
      omega
    have HX6 := Lib.hid hx6
    obtain ⟨KS, hKS⟩ : ∃ KS, l.map (fun y => y.data.toList) = KS := ⟨_, rfl⟩
    have HKS := Lib.hid hKS
    obtain ⟨vl, hvl⟩ : ∃ vl, v.data.toList = vl := ⟨_, rfl⟩
    have HVL := Lib.hid hvl
    have hAT : ∀ (j : Nat) (y : ByteArray), l[j]? = some y → KS[j]? = some y.data.toList := fun j y h => by rw [← hKS, List.getElem?_map, h]; rfl
    have HAT := Lib.hid hAT
    have hKL : KS.length = n := by rw [← hKS, List.length_map]; exact HNN.out
    have HKL := Lib.hid hKL
    have hrw := HRA.out.below HB1.out
    obtain ⟨y0, hy0⟩ : ∃ y, l[0]? = some y := ⟨_, List.getElem?_eq_getElem (by have := HNN.out; omega)⟩
    obtain ⟨⟨ab, ao, asp⟩, rfl, hc0⟩ := hrw 0 y0 hy0
    obtain rfl : asp = none := by simpa [Addr.add] using World.cell?_spot hc0
    have HCL : Hid (∀ (i : Nat) (y : ByteArray), l[i]? = some y → w2.cell? ⟨ab, ao + i, none⟩ = some (.string y)) := Lib.hid (fun i y hy => by
      obtain ⟨ad, had, hcc⟩ := hrw i y hy
      injection had with had
      subst had
      rw [Go.WideShapes.add_plain] at hcc
      exact hcc)
    clear hrw hc0 hy0
    have HLB : Hid (∀ i, (linesT ((linesOf KS vl).take i)).length ≤ 50000) := Lib.hid (fun i => by
      have h1 := linesT_bd 600 ((linesOf KS vl).take i) (fun kv hkv => by
        obtain ⟨j, hj⟩ := List.getElem?_of_mem (List.mem_of_mem_take hkv)
        have hjl : j < KS.length := by
          have := (List.getElem?_eq_some_iff.1 hj).1
          rwa [linesOf_len] at this
        obtain ⟨y, hy⟩ : ∃ y, l[j]? = some y := ⟨_, List.getElem?_eq_getElem (by have := HNN.out; omega)⟩
        have h6 := HX6.out y (List.mem_of_getElem? hy)
        rw [Lib.size_eq] at h6
        rw [linesOf_at vl KS j _ (HAT.out j y hy)] at hj
        injection hj with hj
        subst hj
        refine ⟨h6, ?_⟩
        cases h2 : l[j + 1]? with
        | none =>
          have : KS[j + 1]? = none := by rw [← HKS.out, List.getElem?_map, h2]; rfl
          rw [this]
          have := hV6
          rw [Lib.size_eq, hvl] at this
          dsimp only
          omega
        | some y2 =>
          have h7 := HX6.out y2 (List.mem_of_getElem? h2)
          rw [Lib.size_eq] at h7
          rw [HAT.out _ y2 h2]
          show (60 :: 36 :: 123 :: (y2.data.toList ++ [125, 62])).length ≤ _
          simp only [List.length_cons, List.length_append, List.length_nil]
          omega)
      have h3 : ((linesOf KS vl).take i).length ≤ 30 := by rw [List.length_take, linesOf_len]; omega
      have h4 : ((linesOf KS vl).take i).length * (2 * 600 + 7) ≤ 30 * (2 * 600 + 7) := Nat.mul_le_mul_right _ h3
      omega)
    clear hx6 hKS hvl hAT hKL
    go_loopg [5, 48] n (fun g' v5 v48 wr => ∃ (i : Nat) (s : ByteArray), v48 = .int .i64 (i : Int) ∧ i ≤ n ∧ g' = n - i ∧ v5 = .string s ∧ Hid (s.data.toList = linesT ((linesOf KS vl).take i)) ∧ Hid ((l.take i).Nodup ∧ ∀ y ∈ l.take i, simB y = true) ∧ wr = w2)
    case atStart => exact ⟨0, ⟨#[]⟩, rfl, Nat.zero_le _, rfl, rfl, Lib.hid rfl, Lib.hid ⟨List.nodup_nil, fun y hy => by simp at hy⟩, rfl⟩
    case round =>
      obtain ⟨i, s, rfl, hin, rfl, rfl, HT9, HN9, rfl⟩ := hrel
      by_cases hlt : i < n
      · have hiz : (i : Int) < (n : Int) := by omega
        have hic : (i : Int) ≤ (c : Int) := by omega
        obtain ⟨y, hy⟩ : ∃ y, l[i]? = some y := ⟨_, List.getElem?_eq_getElem (by have := HNN.out; omega)⟩
        have hcell := HCL.out i y hy
        have HY := Lib.hid hy
        have hy6 := HX6.out y (List.mem_of_getElem? hy)
        clear hy
        go_wp2
        go_loopg [57] i (fun g' v57 wq => ∃ j : Nat, v57 = .int .i64 (j : Int) ∧ j ≤ i ∧ g' = i - j ∧ Hid (y ∉ l.take j) ∧ wq = wr)
        case atStart => exact ⟨0, rfl, Nat.zero_le _, rfl, Lib.hid (by simp), rfl⟩
        case round =>
          obtain ⟨j, rfl, hji, rfl, HNI, rfl⟩ := hrel
          by_cases hlj : j < i
          · have hjz : (j : Int) < (i : Int) := by omega
            obtain ⟨z, hz⟩ : ∃ z, l[j]? = some z := ⟨_, List.getElem?_eq_getElem (by have := HNN.out; omega)⟩
            have hcz := HCL.out j z hz
            have HZ := Lib.hid hz
            clear hz
            obtain ⟨b, hb⟩ : ∃ b, (z.toList == y.toList) = b := ⟨_, rfl⟩
            have HBQ := Lib.hid hb
            cases b with
            | true =>
              go_wp2
              go_ret
              exact ⟨rfl, HB1.out⟩
            | false =>
              have HNI2 : Hid (y ∉ l.take (j + 1)) := Lib.hid (by
                rw [List.take_add_one, HZ.out]
                intro hm
                rcases List.mem_append.1 hm with h | h
                · exact HNI.out h
                · simp at h
                  have := HBQ.out
                  rw [h] at this
                  simp at this)
              go_wp2
              go_roundg (i - (j + 1))
              case measure => omega
              case rel => exact ⟨j + 1, by go_num, by omega, rfl, HNI2, rfl⟩
          · have hjz : ¬ (j : Int) < (i : Int) := by omega
            obtain rfl : j = i := by omega
            have HSy := Lib.hid (simple_any y wr (by omega))
            obtain ⟨sy, hsy⟩ : ∃ x, simB y = x := ⟨_, rfl⟩
            rw [hsy] at HSy
            have HSB := Lib.hid hsy
            clear hsy
            cases sy with
            | false =>
              go_wp2_with (go_at_call 11; (with_reducible refine HSy.out.mono ?_); rintro e w5 ⟨rfl, rfl⟩; dsimp only)
              go_ret
              exact ⟨rfl, HB1.out⟩
            | true =>
              have hss : s.size ≤ 50000 := by rw [Lib.size_eq, HT9.out]; exact HLB.out j
              have HN2 : Hid ((l.take (j + 1)).Nodup ∧ ∀ y ∈ l.take (j + 1), simB y = true) := Lib.hid (by
                rw [List.take_add_one, HY.out]
                refine ⟨List.nodup_append.2 ⟨HN9.out.1, by simp, fun a ha b hb e => ?_⟩, fun q hq => ?_⟩
                · simp at hb
                  subst hb
                  exact HNI.out (e ▸ ha)
                · rcases List.mem_append.1 hq with h | h
                  · exact HN9.out.2 q h
                  · simp at h
                    rw [h]
                    exact HSB.out)
              by_cases hlast : j + 1 < n
              · have hlz : (j : Int) + 1 < (n : Int) := by omega
                obtain ⟨y2, hy2⟩ : ∃ z, l[j + 1]? = some z := ⟨_, List.getElem?_eq_getElem (by have := HNN.out; omega)⟩
                have hc2 := HCL.out (j + 1) y2 hy2
                have hy26 := HX6.out y2 (List.mem_of_getElem? hy2)
                have HT2 : Hid ((s ++ (y ++ ⟨#[61]⟩) ++ (⟨#[60, 36, 123]⟩ ++ y2 ++ ⟨#[125, 62, 10]⟩)).data.toList = linesT ((linesOf KS vl).take (j + 1))) := Lib.hid (by
                  rw [List.take_add_one, linesOf_at vl KS j _ (HAT.out j y HY.out), HAT.out _ y2 hy2]
                  show _ = linesT (_ ++ [_])
                  rw [linesT_snoc, ← HT9.out]
                  simp [ByteArray.data_append, refL])
                clear hy2
                go_wp2_with (go_at_call 11; (with_reducible refine HSy.out.mono ?_); rintro e w5 ⟨rfl, rfl⟩; dsimp only)
                go_roundg (n - (j + 1))
                case measure => omega
                case rel => exact ⟨j + 1, _, by go_num, by omega, rfl, rfl, HT2, HN2, rfl⟩
              · have hlz : ¬ (j : Int) + 1 < (n : Int) := by omega
                have hno : l[j + 1]? = none := List.getElem?_eq_none (by have := HNN.out; omega)
                have HT2 : Hid ((s ++ (y ++ ⟨#[61]⟩) ++ (v ++ ⟨#[10]⟩)).data.toList = linesT ((linesOf KS vl).take (j + 1))) := Lib.hid (by
                  have hk2 : KS[j + 1]? = none := by rw [← HKS.out, List.getElem?_map, hno]; rfl
                  rw [List.take_add_one, linesOf_at vl KS j _ (HAT.out j y HY.out), hk2]
                  show _ = linesT (_ ++ [_])
                  rw [linesT_snoc, ← HT9.out, ← HVL.out]
                  simp [ByteArray.data_append])
                clear hno
                go_wp2_with (go_at_call 11; (with_reducible refine HSy.out.mono ?_); rintro e w5 ⟨rfl, rfl⟩; dsimp only)
                go_roundg (n - (j + 1))
                case measure => omega
                case rel => exact ⟨j + 1, _, by go_num, by omega, rfl, rfl, HT2, HN2, rfl⟩
      · have hiz : ¬ (i : Int) < (n : Int) := by omega
        obtain rfl : i = n := by omega
        clear hiz hlt hin
        obtain ⟨hnd, hsim⟩ : l.Nodup ∧ ∀ y ∈ l, simB y = true := by
          have := HN9.out
          rwa [List.take_of_length_le (Nat.le_of_eq HNN.out)] at this
        have hok : KeysOk KS vl := by
          refine ⟨fun e => hn0 (by rw [← HKL.out, e]; rfl), ?_, ?_, ?_, ?_, ?_, by rw [HKL.out]; exact hn30⟩
          · rw [← HKS.out]
            exact List.pairwise_map.2 (hnd.imp (fun h e => h (ba_ext e)))
          · intro k hk
            rw [← HKS.out] at hk
            obtain ⟨y, hy, rfl⟩ := List.mem_map.1 hk
            exact sim_of (hsim y hy)
          · rw [← HVL.out]
            exact sim_of HX.out
          · intro k hk
            rw [← HKS.out] at hk
            obtain ⟨y, hy, rfl⟩ := List.mem_map.1 hk
            have := HX6.out y hy
            rw [Lib.size_eq] at this
            omega
          · rw [← HVL.out, ← Lib.size_eq]
            omega
        have hst : s.data.toList = linesT (linesOf KS vl) := by
          have := HT9.out
          rwa [List.take_of_length_le (by rw [linesOf_len, HKL.out]; exact Nat.le_refl _)] at this
        have hss : s.size ≤ 50000 := by rw [Lib.size_eq, HT9.out]; exact HLB.out i
        obtain ⟨p, hp, hpk, hea, hsome⟩ := exp_law s KS vl hok hst
        obtain ⟨fv, hfv⟩ : ∃ f : ByteArray → ByteArray, (fun k => (ekF vl KS k).getD ⟨#[]⟩) = f := ⟨_, rfl⟩
        have HFV := Lib.hid hfv
        have hplen : (p.ks.map (dataOf p fv)).length = i := by rw [List.length_map, hpk, List.length_map]; exact HKL.out
        have HLP : Hid (Calls Tryz.prog 13 #[.string s, .int .i64 1, .bool false] wr fun e w' => Below wr.heap.size wr w' ∧ ∃ v', e = .returned (.tuple #[v', .bool true]) ∧ PRow wr.heap.size v' (p.ks.map (dataOf p fv)) w') := Lib.hid ((loadProps_exp s wr (by omega) (HTB.out.below HB1.out) (some p) hp (ekF vl KS) (fun q hq => by injection hq with hq; subst hq; exact hea)).mono (by
          rintro e w' ⟨hb, ⟨v', rfl, hr', _⟩ | ⟨_, k, hk1, hk2⟩⟩
          · rw [hfv] at hr'
            exact ⟨hb, v', rfl, hr'⟩
          · have := hsome k hk1
            rw [hk2] at this
            cases this))
        have HPA : Hid (∀ q y, l[q]? = some y → (p.ks.map (dataOf p fv))[q]? = some (dataOf p fv y) ∧ (dataOf p fv y).val = wrapB (i - 1 - q) vl) := Lib.hid (fun q y hy => by
          have hky := HAT.out q y hy
          have hby : baL y.data.toList = y := ba_ext (baL_list _)
          refine ⟨by rw [List.getElem?_map, hpk, List.getElem?_map, hky, Option.map_some, Option.map_some, hby], ?_⟩
          show fv y = _
          rw [← hfv]
          have := ekF_at vl KS q _ hok.nd hky
          rw [hby, HKL.out] at this
          show (ekF vl KS y).getD ⟨#[]⟩ = _
          rw [this]
          rfl)
        have HPL := Lib.hid hplen
        clear hnd hsim hok hst hp hpk hea hsome hfv hplen
        go_wp2_with (go_at_call 13; (with_reducible refine HLP.out.mono ?_); rintro e w7 ⟨hb7, v7, rfl, us, hu1, hu2, hu3⟩; rw [HPL.out] at hu1 hu2; obtain ⟨a7, cp7, rfl⟩ := slq_any hu2; have HU1 := Lib.hid hu1; have HU2 := Lib.hid hu2; have HU3 := Lib.hid hu3; have HB7 := Lib.hid (bthen HB1.out hb7); clear hb7 hu1 hu2 hu3; dsimp only)
        go_loopg [107] i (fun g' v107 wr => ∃ q : Nat, v107 = .int .i64 (q : Int) ∧ q ≤ i ∧ g' = i - q ∧ Hid (Below w7.heap.size w7 wr))
        case atStart => exact ⟨0, rfl, Nat.zero_le _, rfl, Lib.hid (Below.refl _ _)⟩
        case round =>
          obtain ⟨q, rfl, hqn, rfl, HBq⟩ := hrel
          by_cases hlq : q < i
          · have hqz : (q : Int) < (i : Int) := by omega
            obtain ⟨g7, rfl⟩ := slq_pos HU2.out (by omega)
            obtain ⟨y, hy⟩ : ∃ y, l[q]? = some y := ⟨_, List.getElem?_eq_getElem (by have := HNN.out; omega)⟩
            obtain ⟨hd1, hd2⟩ := HPA.out q y hy
            obtain ⟨u, hu⟩ : ∃ u, us[q]? = some u := ⟨_, List.getElem?_eq_getElem (by have := HU1.out; omega)⟩
            obtain ⟨ua, uc, rfl⟩ := slq_any (HU3.out q _ u hd1 hu)
            obtain ⟨un, hun⟩ : ∃ m, (dataOf p fv y).com.length = m := ⟨_, rfl⟩
            rw [hun] at hu
            obtain ⟨z0, z1, z2, z3⟩ := prow_cells (row_keep HU2.out (fun g hg => HBq.out.block g (row_lt HU2.out hg).2)) hlq hd1 hu
            rw [hd2] at z2
            obtain ⟨KK, hKK⟩ : ∃ k, (dataOf p fv y).key = k := ⟨_, rfl⟩
            obtain ⟨RR, hRR⟩ : ∃ k, (dataOf p fv y).raw = k := ⟨_, rfl⟩
            rw [hKK] at z0
            rw [hRR] at z1
            obtain ⟨m, hm⟩ : ∃ m, i - 1 - q = m := ⟨_, rfl⟩
            rw [hm] at z2
            have hmz : (i : Int) - 1 - (q : Int) = (m : Int) := by omega
            have hm30 : m ≤ 30 := by omega
            obtain ⟨A6, hA6⟩ : ∃ A : ByteArray, (⟨(List.replicate m 60).toArray⟩ : ByteArray) = A := ⟨_, rfl⟩
            obtain ⟨A7, hA7⟩ : ∃ A : ByteArray, (⟨(List.replicate m 62).toArray⟩ : ByteArray) = A := ⟨_, rfl⟩
            have hs6 : A6.size ≤ 30 := by rw [← hA6, Lib.size_eq]; simpa using hm30
            have hs7 : A7.size ≤ 30 := by rw [← hA7, Lib.size_eq]; simpa using hm30
            have hwr : wrapB m vl = A6 ++ v ++ A7 := by
              apply ba_ext
              rw [ByteArray.data_append, ByteArray.data_append, Array.toList_append, Array.toList_append, ← hA6, ← hA7, HVL.out]
              unfold wrapB
              rw [baL_list]
              simp
            rw [hwr] at z2
            have HALL6 : Hid (∀ y, Calls Tryz.prog 14 #[.int .u8 60, .int .i64 (m : Int)] y fun e w' => e = .returned (.string A6) ∧ Below y.heap.size y w') := Lib.hid (fun y => hA6 ▸ all_any 60 m _ _ rfl rfl y (by omega))
            have HALL7 : Hid (∀ y, Calls Tryz.prog 14 #[.int .u8 62, .int .i64 (m : Int)] y fun e w' => e = .returned (.string A7) ∧ Below y.heap.size y w') := Lib.hid (fun y => hA7 ▸ all_any 62 m _ _ rfl rfl y (by omega))
            have hc1 : (9223372036854775807 < A6.size + v.size) = False := eq_false (by omega)
            have hc2 : (9223372036854775807 < (A6 ++ v).size + A7.size) = False := eq_false (by rw [ByteArray.size_append]; omega)
            have hc3 : (9223372036854775807 < A6.size + v.size + A7.size) = False := eq_false (by omega)
            have HB13 : Hid (Below w7.heap.size w7 (wr.alloc (.cells #[.string KK, .string RR, .string (A6 ++ v ++ A7), .slice ua un uc] 31))) := Lib.hid (HBq.out.alloc HBq.out.size _)
            obtain ⟨W8, hW8⟩ : ∃ W, wr.alloc (.cells #[.string KK, .string RR, .string (A6 ++ v ++ A7), .slice ua un uc] 31) = W := ⟨_, rfl⟩
            obtain ⟨b13, hb13⟩ : ∃ b, wr.heap.size = b := ⟨_, rfl⟩
            have hk8 : W8.heap[b13]? = some (.cells #[.string KK, .string RR, .string (A6 ++ v ++ A7), .slice ua un uc] 31 (0, 0)) := by rw [← hW8, ← hb13]; exact heap_alloc_new wr _
            have hc13 : W8.cell? ⟨b13, 2, none⟩ = some (.string (A6 ++ v ++ A7)) := by simp [World.cell?, hk8]
            have hl13 : b13 < W8.heap.size := lt_of_block hk8
            rw [hW8] at HB13
            have HW8 := Lib.hid hW8
            clear hV
            clear hy hd1 hd2 hu hun hKK hRR hm hA6 hA7 hwr hs6 hs7 hW8 hk8
            have HD8 : Hid (Below W8.heap.size W8 W8.drew) := Lib.hid (Below.drew (Below.refl _ _))
            go_wp2_with (rw [HW8.out])
            go_region_held3 (fun y => y.cell? ⟨b13, 2, none⟩ = some (.string (A6 ++ v ++ A7)))
              (first | exact (HBy.out.cell hl13).trans hc13 | exact (HD8.out.cell hl13).trans hc13)
              (first
                | (go_at_call 14; (with_reducible refine (HALL6.out _).mono ?_); rintro e y1 ⟨rfl, hy1⟩; have HBy : Hid (Below W8.heap.size W8 y1) := Lib.hid (by first | exact bthen HBy.out hy1 | exact bthen HD8.out hy1); clear hy1; dsimp only)
                | (go_at_call 14; (with_reducible refine (HALL7.out _).mono ?_); rintro e y1 ⟨rfl, hy1⟩; have HBy : Hid (Below W8.heap.size W8 y1) := Lib.hid (by first | exact bthen HBy.out hy1 | exact bthen HD8.out hy1); clear hy1; dsimp only))
            all_goals (
              have HB14 : Hid (Below w7.heap.size w7 _) := Lib.hid (bthen HB13.out HBy.out)
              go_wp2
              go_roundg (i - (q + 1))
              case measure => omega
              case rel => exact ⟨q + 1, by go_num, by omega, rfl, HB14⟩)
          · have hqz : ¬ (q : Int) < (i : Int) := by omega
            go_wp2
            go_ret
            exact ⟨rfl, bthen HB7.out HBq.out⟩
  · by_cases hz : n = 0
    · subst hz
      have hz0 : (((0 : Nat) : Int) == (0 : Int)) = true := rfl
      clear hgo
      go_enter Tryz.func3, Tryz.ntmps3
      go_wp2_with (first
        | (go_at_call 9; (with_reducible refine HFI.out.mono ?_); rintro e w1 ⟨rfl, rfl⟩; dsimp only)
        | (go_at_call 10; (with_reducible refine HLD.out.mono ?_); rintro e w1 ⟨rfl, hb1⟩; have HB1 := Lib.hid hb1; clear hb1; dsimp only)
        | (go_at_call 11; (with_reducible refine (HSv.out _).mono ?_); rintro e w2 ⟨rfl, rfl⟩; dsimp only)
        | (go_at_call 12; (with_reducible refine (HSZ.out _ HB1.out).mono ?_); rintro e w2 ⟨rfl, rfl⟩; dsimp only))
      go_ret
      exact ⟨rfl, HB1.out⟩
    have hz0 : ((n : Int) == (0 : Int)) = false := by rw [beq_eq_false_iff_ne]; omega
    by_cases hz3 : 30 < n
    · have hz30 : (30 : Int) < (n : Int) := by omega
      clear hgo
      go_enter Tryz.func3, Tryz.ntmps3
      go_wp2_with (first
        | (go_at_call 9; (with_reducible refine HFI.out.mono ?_); rintro e w1 ⟨rfl, rfl⟩; dsimp only)
        | (go_at_call 10; (with_reducible refine HLD.out.mono ?_); rintro e w1 ⟨rfl, hb1⟩; have HB1 := Lib.hid hb1; clear hb1; dsimp only)
        | (go_at_call 11; (with_reducible refine (HSv.out _).mono ?_); rintro e w2 ⟨rfl, rfl⟩; dsimp only)
        | (go_at_call 12; (with_reducible refine (HSZ.out _ HB1.out).mono ?_); rintro e w2 ⟨rfl, rfl⟩; dsimp only))
      go_ret
      exact ⟨rfl, HB1.out⟩
    have hz30 : ¬ (30 : Int) < (n : Int) := by omega
    cases x with
    | false =>
      clear hgo
      go_enter Tryz.func3, Tryz.ntmps3
      go_wp2_with (first
        | (go_at_call 9; (with_reducible refine HFI.out.mono ?_); rintro e w1 ⟨rfl, rfl⟩; dsimp only)
        | (go_at_call 10; (with_reducible refine HLD.out.mono ?_); rintro e w1 ⟨rfl, hb1⟩; have HB1 := Lib.hid hb1; clear hb1; dsimp only)
        | (go_at_call 11; (with_reducible refine (HSv.out _).mono ?_); rintro e w2 ⟨rfl, rfl⟩; dsimp only)
        | (go_at_call 12; (with_reducible refine (HSZ.out _ HB1.out).mono ?_); rintro e w2 ⟨rfl, rfl⟩; dsimp only))
      go_ret
      exact ⟨rfl, HB1.out⟩
    | true =>
      have hz600 : (600 : Int) < (S : Int) + (V : Int) := by
        have : ¬ (S + V ≤ 600) := fun h => hgo ⟨⟨hz, by omega⟩, rfl, h⟩
        omega
      clear hgo
      go_enter Tryz.func3, Tryz.ntmps3
      go_wp2_with (first
        | (go_at_call 9; (with_reducible refine HFI.out.mono ?_); rintro e w1 ⟨rfl, rfl⟩; dsimp only)
        | (go_at_call 10; (with_reducible refine HLD.out.mono ?_); rintro e w1 ⟨rfl, hb1⟩; have HB1 := Lib.hid hb1; clear hb1; dsimp only)
        | (go_at_call 11; (with_reducible refine (HSv.out _).mono ?_); rintro e w2 ⟨rfl, rfl⟩; dsimp only)
        | (go_at_call 12; (with_reducible refine (HSZ.out _ HB1.out).mono ?_); rintro e w2 ⟨rfl, rfl⟩; dsimp only))
      go_ret
      exact ⟨rfl, HB1.out⟩
end Go.Proofs.YtackciefmdiphaaGreatDoor
