/- The walk of the law FnWordsEscaped. -/
import Derived.Test.YtcjfcjlendibpaaDoorPLetter
set_option linter.unusedVariables false
namespace Go.Proofs.YtcjfcjlendibpaaDoor
open Go.RowKit Plain Go.Proofs.YtcjfcjlendibpaaDoorW.PrintWords

set_option maxHeartbeats 4000000 in
set_option maxRecDepth 100000 in
theorem fnWordsEscaped_walk (A : Option Addr) (n c : Nat) (l : List ByteArray) (w : World) (hk : Kd.string.C w A n l) (hn : l.length = n) (hc : n ≤ c) (hE0 : EVar w) :
    Calls Tryd.prog 4 #[.slice A n c] w fun e w' => e = .returned (.bool true) ∧ Below w.heap.size w w' := by
  obtain ⟨ft, hft⟩ : ∃ ft, (decide (l.length ≤ 2147483647) && fitsR l) = ft := ⟨_, rfl⟩
  have HF := Lib.hid (fits_at A n c l w ft hk hn hc hft)
  cases ft with
  | false =>
    clear hft hE0 hk hn hc
    go_enter Tryd.func4, Tryd.ntmps4
    go_wp2_with (go_at_call 14; (with_reducible refine HF.out.mono ?_); rintro e w1 ⟨rfl, hb1⟩; dsimp only)
    go_ret
    exact ⟨rfl, hb1⟩
  | true =>
    simp only [Bool.and_eq_true, decide_eq_true_eq] at hft
    obtain ⟨hl31, hfl⟩ := hft
    obtain ⟨sn, hsn⟩ : ∃ sn, (l.all seenB && decide (l.length + szSum l ≤ 1000)) = sn := ⟨_, rfl⟩
    have HS := Lib.hid (fun W (hb : Below w.heap.size w W) => seen_at A n c l W sn (Kd.C_below hk hb) hn hc hl31 hfl hsn)
    have HO := Lib.hid (fun W hE => one_any W hE)
    have HE0 := Lib.hid hE0
    have HK := Lib.hid hk
    have HN := Lib.hid hn
    clear hE0 hk hn hl31 hfl
    go_enter Tryd.func4, Tryd.ntmps4
    go_wp2_with (go_at_call 14; (with_reducible refine HF.out.mono ?_); rintro e w1 ⟨rfl, hb1⟩; dsimp only)
    have HE1 := Lib.hid (HE0.out.below hb1)
    have HB1 := Lib.hid hb1
    clear hb1
    refine (HO.out _ HE1.out).mono ?_
    rintro e w2 ⟨rfl, hb2⟩
    dsimp only
    have HB2 := Lib.hid (bthen HB1.out hb2)
    have HE2 := Lib.hid (HE1.out.below hb2)
    clear hb2
    go_wp2_with (go_at_call 15; (with_reducible refine (HS.out _ HB2.out).mono ?_))
    rintro e w3 ⟨rfl, hb3⟩
    dsimp only
    have HB3 := Lib.hid (bthen HB2.out hb3)
    have HE3 := Lib.hid (HE2.out.below hb3)
    clear hb3 HB1 HB2 HE1 HE2 HO HF HS
    cases sn with
    | false =>
      clear hsn
      go_wp2_with fail
      go_ret
      exact ⟨rfl, HB3.out⟩
    | true =>
      simp only [Bool.and_eq_true, decide_eq_true_eq] at hsn
      obtain ⟨hsl, hsz⟩ := hsn
      have HSL := Lib.hid hsl
      have HSZ := Lib.hid hsz
      have hn1 : n ≤ 1000 := by rw [← HN.out]; omega
      clear hsl hsz
      by_cases hn0 : n = 0
      · subst hn0
        go_wp2_with fail
        go_ret
        exact ⟨rfl, HB3.out⟩
      · have hnb : ((n : Int) == 0) = false := by rw [beq_eq_false_iff_ne]; omega
        have hnp : 0 < n := by omega
        clear hn0
        obtain ⟨i0, hi, hz0, hz1, hz2⟩ := info_parts infoStr
        have HI := Lib.hid (And.intro hi (And.intro hz0 (And.intro hz1 hz2)))
        clear hi hz0 hz1 hz2
        go_wp2_with fail
        go_loopg [3, 26] n (fun gh vo vi wr => ∃ k : Nat, vi = .int .i64 k ∧ k ≤ n ∧ gh = n - k ∧ wr.ownsRow w3.heap.size 9 1 vo k (((l.take k).map escB).map Value.string) ∧ (∀ x ∈ l.take k, x.size ≠ 0) ∧ (k = 0 ∨ ∃ g c, vo = .slice (some ⟨g, 0, none⟩) k c) ∧ Below w3.heap.size w3 wr)
        case atStart => exact ⟨0, rfl, Nat.zero_le _, rfl, World.ownsRow_nil _ _ _ _, by simp, .inl rfl, Below.refl _ _⟩
        case round =>
          obtain ⟨k, rfl, hkn, rfl, how, hno, hsh, hbw⟩ := hrel
          have HOW := Lib.hid how
          have HNO := Lib.hid hno
          have HSH := Lib.hid hsh
          have HBX := Lib.hid hbw
          clear how hno hsh hbw
          by_cases hlt : k < n
          · have hkz : (k : Int) < (n : Int) := by omega
            have hkl : k < l.length := by rw [HN.out]; exact hlt
            have hk2 := Kd.C_below HK.out (bthen HB3.out HBX.out)
            obtain ⟨ad, rfl, hcell⟩ := Kd.at_string hk2 (k : Int) (by omega) hkz
            rw [rd_at hkl] at hcell
            have hcell2 : wr.cell? (ad.add k) = some (.string l[k]) := hcell
            have hxs : l[k].size ≤ 1000 := Nat.le_trans (szSum_mem (List.getElem_mem hkl)) (by have := HSZ.out; omega)
            have hsnoc := take_snoc hkl
            obtain ⟨X, hX⟩ : ∃ X, l[k] = X := ⟨_, rfl⟩
            rw [hX] at hcell2 hxs hsnoc
            have HSN := Lib.hid hsnoc
            clear hsnoc hk2 hcell hX hkl
            by_cases hx0 : X.size = 0
            · obtain rfl := ba_empty hx0
              go_wp2_with fail
              go_ret
              exact ⟨rfl, bthen HB3.out HBX.out⟩
            have hxe : X.toList.isEmpty = false := by
              rw [Lib.toList_data]
              cases h9 : X.data.toList with
              | nil => exact absurd (by rw [Lib.size_eq, h9]; rfl) hx0
              | cons a b => rfl
            obtain ⟨m, hm⟩ : ∃ m, X.size = m := ⟨_, rfl⟩
            rw [hm] at hxs hx0
            have HM := Lib.hid hm
            have hmz : (X.size : Int) = (m : Int) := by omega
            clear hm
            go_wp2_with fail
            go_loopg [6, 7] m (fun gh vs vi wq => ∃ (j : Nat) (S : ByteArray), vs = .string S ∧ vi = .int .i64 j ∧ j ≤ m ∧ gh = m - j ∧ Hid (S.data.toList = (X.data.toList.take j).flatMap escC) ∧ S.size ≤ 2 * j ∧ Hid (Below w3.heap.size w3 wq) ∧ Hid (Below wr.heap.size wr wq))
            case atStart => exact ⟨0, ⟨#[]⟩, rfl, rfl, Nat.zero_le _, rfl, Lib.hid rfl, Nat.zero_le _, HBX, Lib.hid (Below.refl _ _)⟩
            case round =>
              clear hcell2
              obtain ⟨j, S, rfl, rfl, hjm, rfl, HSD, hSs, HBQ, HBR⟩ := hrel
              by_cases hjl : j < m
              · have hjz : (j : Int) < (m : Int) := by omega
                have hjX : j < X.data.toList.length := by rw [← Lib.size_eq, HM.out]; exact hjl
                obtain ⟨ch, hch⟩ : ∃ ch, X.data.toList[j] = ch := ⟨_, rfl⟩
                have hst := esc_step (l := X.data.toList) (k := j) (c := ch) (by rw [List.getElem?_eq_getElem hjX, hch])
                obtain ⟨C, hC⟩ : ∃ C : Nat, ch.toNat = C := ⟨_, rfl⟩
                have hbt : bt X (j : Int) = (C : Int) := by
                  unfold bt
                  rw [dif_pos (by rw [← Lib.size_eq] at hjX; simpa using hjX), ← hC, ← hch]
                  rfl
                have hC256 : C < 256 := by have := ch.toNat_lt; omega
                obtain ⟨E, hE⟩ : ∃ E, j + 1 = E := ⟨_, rfl⟩
                have hEz : (j : Int) + 1 = (E : Int) := by omega
                have hjE : j ≤ E := by omega
                have hEm : E ≤ m := by omega
                have hEmz : (E : Int) ≤ (m : Int) := by omega
                have hex : (X.extract j E).data.toList = [ch] := by
                  rw [← Lib.toList_data, Lib.extract_toList]
                  rw [show E - j = 1 by omega, List.drop_eq_getElem_cons hjX, hch]
                  rfl
                have hez : (X.extract j E).size = 1 := by rw [Lib.size_eq, hex]; rfl
                have HEX := Lib.hid hex
                have HST := Lib.hid hst
                have HCC := Lib.hid hC
                have HEE := Lib.hid hE
                obtain ⟨lv, hlv⟩ : ∃ lv, letB C = lv := ⟨_, rfl⟩
                have HL := Lib.hid (fun W => letter_at C (C : Int) W lv rfl hlv)
                have hrel1 : ∀ (T : ByteArray), T.data.toList = S.data.toList ++ [ch] → alnum C = true → T.data.toList = (X.data.toList.take E).flatMap escC := by
                  intro T hT ha
                  rw [← HEE.out, HST.out, ← HSD.out, hT]
                  unfold escC
                  rw [if_pos (by rw [HCC.out]; exact ha)]
                have hrel2 : ∀ (T : ByteArray), T.data.toList = S.data.toList ++ [92, ch] → alnum C = false → T.data.toList = (X.data.toList.take E).flatMap escC := by
                  intro T hT ha
                  rw [← HEE.out, HST.out, ← HSD.out, hT]
                  unfold escC
                  rw [if_neg (by rw [HCC.out, ha]; decide)]
                have HR1 := Lib.hid hrel1
                have HR2 := Lib.hid hrel2
                have hal := alnum_let C
                rw [hlv] at hal
                have HAL := Lib.hid hal
                clear hrel1 hrel2 hst hch hC hE hex hjX hlv hal
                have hez2 : (S.size : Int) + ((X.extract j E).size : Int) ≤ 9223372036854775807 := by omega
                have hidx : ∀ h : (j : Int).toNat < X.size, ((X[(j : Int).toNat]'h).toNat : Int) = (C : Int) := fun h => by rw [← hbt]; unfold bt; rw [dif_pos h]
                have hidx2 : ∀ h : j < X.size, ((X[j]'h).toNat : Int) = (C : Int) := fun h => hidx h
                clear hbt
                go_wp2_with (go_at_call 16; (with_reducible refine (HL.out _).mono ?_))
                rintro e w4 ⟨rfl, hb4⟩
                dsimp only
                have HB4 := Lib.hid (HBQ.out.trans (hb4.mono HBQ.out.size))
                have HR4 := Lib.hid (HBR.out.trans (hb4.mono HBR.out.size))
                clear hb4
                have eS : (⟨#[92]⟩ : ByteArray).size = 1 := rfl
                have heS : (S.size : Int) + ((⟨#[92]⟩ : ByteArray).size : Int) ≤ 9223372036854775807 := by rw [eS]; omega
                have heT : ((S ++ ⟨#[92]⟩).size : Int) + ((X.extract j E).size : Int) ≤ 9223372036854775807 := by rw [ByteArray.size_append, eS]; omega
                clear eS
                have fin1 : alnum C = true → Hid ((S ++ X.extract j E).data.toList = (X.data.toList.take E).flatMap escC) := fun ha => Lib.hid (HR1.out _ (by rw [← HEX.out]; simp) ha)
                have fin2 : alnum C = false → Hid ((S ++ ⟨#[92]⟩ ++ X.extract j E).data.toList = (X.data.toList.take E).flatMap escC) := fun ha => Lib.hid (HR2.out _ (by rw [show (S ++ ⟨#[92]⟩ ++ X.extract j E).data.toList = S.data.toList ++ [92] ++ (X.extract j E).data.toList by simp, HEX.out]; simp) ha)
                have siz1 : (S ++ X.extract j E).size ≤ 2 * E := by rw [ByteArray.size_append]; omega
                have siz2 : (S ++ ⟨#[92]⟩ ++ X.extract j E).size ≤ 2 * E := by rw [ByteArray.size_append, ByteArray.size_append]; show S.size + 1 + _ ≤ _; omega
                have F1 := Lib.hid fin1
                have F2 := Lib.hid fin2
                have Z1 := Lib.hid siz1
                have Z2 := Lib.hid siz2
                clear fin1 fin2 siz1 siz2
                cases lv with
                | true =>
                  have ha : alnum C = true := by rw [HAL.out]; rfl
                  have FF := Lib.hid (F1.out ha)
                  clear ha
                  go_wp2_with fail
                  go_roundg (m - E)
                  case measure => have := HEE.out; omega
                  case rel => exact ⟨E, _, rfl, by have := HEE.out; go_num, by omega, rfl, FF.out, Z1.out, HB4, HR4⟩
                | false =>
                  by_cases c1 : C < 48
                  · have c1z : (C : Int) < 48 := by omega
                    have ha : alnum C = false := by rw [HAL.out, decide_eq_false (show ¬ 48 ≤ C by omega)]; rfl
                    have FF := Lib.hid (F2.out ha)
                    clear ha
                    go_wp2_with fail
                    go_roundg (m - E)
                    case measure => have := HEE.out; omega
                    case rel => exact ⟨E, _, rfl, by have := HEE.out; go_num, by omega, rfl, FF.out, Z2.out, HB4, HR4⟩
                  · have c1z : ¬ (C : Int) < 48 := by omega
                    by_cases c2 : 57 < C
                    · have c2z : (57 : Int) < (C : Int) := by omega
                      have ha : alnum C = false := by rw [HAL.out, decide_eq_false (show ¬ C ≤ 57 by omega), Bool.and_false]; rfl
                      have FF := Lib.hid (F2.out ha)
                      clear ha
                      go_wp2_with fail
                      go_roundg (m - E)
                      case measure => have := HEE.out; omega
                      case rel => exact ⟨E, _, rfl, by have := HEE.out; go_num, by omega, rfl, FF.out, Z2.out, HB4, HR4⟩
                    · have c2z : ¬ (57 : Int) < (C : Int) := by omega
                      have ha : alnum C = true := by rw [HAL.out, decide_eq_true (show 48 ≤ C by omega), decide_eq_true (show C ≤ 57 by omega)]; rfl
                      have FF := Lib.hid (F1.out ha)
                      clear ha
                      go_wp2_with fail
                      go_roundg (m - E)
                      case measure => have := HEE.out; omega
                      case rel => exact ⟨E, _, rfl, by have := HEE.out; go_num, by omega, rfl, FF.out, Z1.out, HB4, HR4⟩
              · have hjz : ¬ (j : Int) < (m : Int) := by omega
                obtain rfl : j = m := by omega
                have hSX : S = escB X := by
                  apply ByteArray.ext
                  apply Array.toList_inj.1
                  rw [HSD.out, List.take_of_length_le (by rw [← Lib.size_eq, HM.out]; exact Nat.le_refl _)]
                  rfl
                subst hSX
                have HOW4 := Lib.hid (own_bl HOW.out HBR.out)
                have hz4 : w3.heap.size ≤ wr.heap.size := HBQ.out.size
                go_wp2_with (at_builtin; refine wpList_append_own _ rfl _ _ 24 rfl w3.heap.size 9 i0 (.string ByteArray.empty) 1 16 Tryd.underlying24 HI.out.1 HI.out.2.1 HI.out.2.2.1 HI.out.2.2.2 rfl (by decide) _ _ _ rfl (HOW4.out.alloc _) ⟨wr.heap.size, 0, none⟩ 1 1 [.string (escB X)] rfl rfl ?c1 ?c2 ?c3 ?c4 ?c5 ?_)
                try case c1 => exact cell_one_new _ _ _
                case c2 => first | rfl | (intro u hu; simp at hu; subst hu; rfl)
                case c3 => unfold maxLen; omega
                case c4 => omega
                case c5 => first | omega | (simp; omega)
                intro v' w5 hown5 hgr5 _
                have hb5 := (HBQ.out.alloc HBQ.out.size (.cells #[.string (escB X)] 9)).grown hgr5 (by simp; omega) (fun j hj => (HOW4.out.lt j hj).1)
                have HB5 := Lib.hid hb5
                have HOW5 := Lib.hid hown5
                clear hb5 hgr5 hown5
                go_wp2_with fail
                go_roundg (n - (k + 1))
                case measure => omega
                case rel =>
                  have ho := HOW5.out
                  refine ⟨k + 1, by go_num, by omega, rfl, ?_, ?_, .inr (own_sl ho (.inr (Nat.succ_pos k))), HB5.out⟩
                  · rw [HSN.out]; simpa [List.map_append, List.map_map, List.map_take] using ho
                  · rw [HSN.out]
                    intro x hx
                    rcases List.mem_append.1 hx with hx | hx
                    · exact HNO.out x hx
                    · simp at hx; subst hx; rw [HM.out]; exact hx0
          · have hkz : ¬ (k : Int) < (n : Int) := by omega
            obtain rfl : k = n := by omega
            rcases HSH.out with h0 | ⟨g, c2, rfl⟩
            · omega
            have htk : l.take k = l := List.take_of_length_le (by rw [HN.out]; exact Nat.le_refl _)
            have how := HOW.out
            rw [htk] at how
            have hc2 := own_le how
            have HKO := Lib.hid (kc_ownB how (by rw [List.length_map, HN.out]) (by omega))
            have hne : l ≠ [] := by intro e; have := HN.out; rw [e] at this; simp at this; omega
            have HWD := Lib.hid (esc_ok l hne HSL.out (by have := HNO.out; rwa [htk] at this))
            have hlm : (l.map escB).length = k := by rw [List.length_map, HN.out]
            have hsum := esc_sum l
            have hszz := HSZ.out
            have hjs := joined_size (l.map escB)
            obtain ⟨J, hJ⟩ : ∃ J, joinedB ⟨#[32]⟩ (l.map escB) = J := ⟨_, rfl⟩
            have HJ := Lib.hid (fun W hk => joined_at (some ⟨g, 0, none⟩) k c2 (l.map escB) ⟨#[32]⟩ W J hk hlm hc2 (by omega) (by decide) (by omega) hJ)
            have hJs : J.size ≤ 5000 := by rw [← hJ]; omega
            have HW := Lib.hid (fun W hE => words0 J (some (laOf l, -1)) (by have := HWD.out; rw [hJ] at this; exact this) W (by omega) hE)
            clear how htk hne hlm hsum hszz hjs hJ
            go_wp2_with (go_at_call 17; (with_reducible refine (HJ.out _ HKO.out).mono ?_))
            intro e w4 he4 hb4
            subst he4
            dsimp only
            have HB4 := Lib.hid (bthen HB3.out (bthen HBX.out hb4))
            have HE4 := Lib.hid (HE3.out.below (bthen HBX.out hb4))
            clear hb4
            go_wp2_with (go_at_call 11; (with_reducible refine (HW.out _ HE4.out).mono ?_))
            intro e w5 hp
            obtain ⟨g5, c5, rfl, ho5, hb5⟩ := w0_some hp
            have hc5 := own_le ho5
            have hla : (laOf l).length = k := by rw [laOf_length, HN.out]
            rw [hla] at ho5 hc5 ⊢
            have hk5 := kc_own ho5 hla (by omega)
            rw [baOf_laOf] at hk5
            have HQ := Lib.hid (eqTexts_at (some ⟨g5, 0, none⟩) A k k c5 c l l w5 true hk5 (Kd.C_below HK.out (bthen HB4.out hb5)) HN.out HN.out hc5 hc (by omega) (by simp))
            have HB5 := Lib.hid (bthen HB4.out hb5)
            clear hp ho5 hb5 hla hk5
            dsimp only
            go_wp2_with (go_at_call 13; (with_reducible refine HQ.out.mono ?_); rintro e w6 ⟨rfl, hb6⟩; dsimp only)
            go_ret
            exact ⟨rfl, bthen HB5.out hb6⟩
end Go.Proofs.YtcjfcjlendibpaaDoor
