/- The walk of the law FnWordsQuoted. -/
import Derived.Test.YtcjfcjlendibpaaDoorPRows
set_option linter.unusedVariables false
namespace Go.Proofs.YtcjfcjlendibpaaDoor
open Go.RowKit Plain Go.Proofs.YtcjfcjlendibpaaDoorW.PrintWords

def quo (x : List UInt8) : List UInt8 := 39 :: (x ++ [39])
def quoB (x : ByteArray) : ByteArray := ⟨#[39]⟩ ++ x ++ ⟨#[39]⟩
theorem quoB_data (x : ByteArray) : (quoB x).data.toList = quo x.data.toList := by
  show ((⟨#[39]⟩ : ByteArray) ++ x ++ ⟨#[39]⟩).data.toList = _
  simp [quo]
theorem quoB_map (l : List ByteArray) : l.map quoB = baOf ((laOf l).map quo) := by
  unfold baOf laOf
  rw [List.map_map, List.map_map]
  refine List.map_congr_left fun x _ => ?_
  exact ByteArray.ext (Array.toList_inj.1 (quoB_data x))
theorem quo_ok (l : List ByteArray) (hne : l ≠ []) (hs : l.all seenB = true) (h : ∀ x ∈ l, (39 : UInt8) ∉ x.data.toList) : words false (rnsOf (joinedB ⟨#[32]⟩ (l.map quoB)).data.toList) = some (laOf l, -1) := by
  have hb : ∀ x ∈ laOf l, ∀ c ∈ x, c.toNat < 128 ∧ c.toNat ≠ 39 := by
    intro x hx c hc
    obtain ⟨y, hy, rfl⟩ := List.mem_map.1 hx
    have h1 := List.all_eq_true.1 hs y hy
    have h2 := List.all_eq_true.1 (show y.data.toList.all _ = true from h1) c hc
    simp only [Bool.and_eq_true, decide_eq_true_eq] at h2
    refine ⟨by omega, fun e => h y hy ?_⟩
    have : c = 39 := UInt8.toNat_inj.1 e
    rwa [this] at hc
  rw [quoB_map]
  refine words_enc quo (laOf l) (by simpa [laOf] using hne) (fun x hx => ?_) (fun x hx c hc => ?_)
  · have := quoted_ok x (hb x hx)
    have e : (quo x).map (·.toNat) = 39 :: (x.map (·.toNat) ++ [39]) := by simp [quo]
    rw [e]
    exact this
  · unfold quo at hc
    rcases List.mem_cons.1 hc with rfl | hc
    · decide
    · rcases List.mem_append.1 hc with hc | hc
      · exact (hb x hx c hc).1
      · simp at hc; subst hc; decide
theorem quoB_size (x : ByteArray) : (quoB x).size = x.size + 2 := by
  show ((⟨#[39]⟩ : ByteArray) ++ x ++ ⟨#[39]⟩).size = _
  rw [ByteArray.size_append, ByteArray.size_append]
  show 1 + x.size + 1 = _
  omega
theorem quo_sum (l : List ByteArray) : szSum (l.map quoB) = szSum l + 2 * l.length := by
  induction l with
  | nil => rfl
  | cons x l ih =>
    show (quoB x).size + szSum (l.map quoB) = x.size + szSum l + _
    rw [quoB_size, ih, List.length_cons]
    omega
set_option maxHeartbeats 4000000 in
set_option maxRecDepth 100000 in
theorem fnWordsQuoted_walk (A : Option Addr) (n c : Nat) (l : List ByteArray) (w : World) (hk : Kd.string.C w A n l) (hn : l.length = n) (hc : n ≤ c) (hE0 : EVar w) :
    Calls Tryd.prog 5 #[.slice A n c] w fun e w' => e = .returned (.bool true) ∧ Below w.heap.size w w' := by
  obtain ⟨ft, hft⟩ : ∃ ft, (decide (l.length ≤ 2147483647) && fitsR l) = ft := ⟨_, rfl⟩
  have HF := Lib.hid (fits_at A n c l w ft hk hn hc hft)
  cases ft with
  | false =>
    clear hft hE0 hk hn hc
    go_enter Tryd.func5, Tryd.ntmps5
    go_wp2_with (go_at_call 14; (with_reducible refine HF.out.mono ?_); rintro e w1 ⟨rfl, hb1⟩; dsimp only)
    go_ret
    exact ⟨rfl, hb1⟩
  | true =>
    simp only [Bool.and_eq_true, decide_eq_true_eq] at hft
    obtain ⟨hl31, hfl⟩ := hft
    obtain ⟨sn, hsn⟩ : ∃ sn, (l.all seenB && decide (l.length + szSum l ≤ 1000)) = sn := ⟨_, rfl⟩
    have HS := Lib.hid (fun W (hb : Below w.heap.size w W) => seen_at A n c l W sn (Kd.C_below hk hb) hn hc hl31 hfl hsn)
    have HO := Lib.hid (fun W hE => one_any W hE)
    have HE0 := Lib.hid hE0
    have HK := Lib.hid hk
    have HN := Lib.hid hn
    clear hE0 hk hn hl31 hfl
    go_enter Tryd.func5, Tryd.ntmps5
    go_wp2_with (go_at_call 14; (with_reducible refine HF.out.mono ?_); rintro e w1 ⟨rfl, hb1⟩; dsimp only)
    have HE1 := Lib.hid (HE0.out.below hb1)
    have HB1 := Lib.hid hb1
    clear hb1
    refine (HO.out _ HE1.out).mono ?_
    rintro e w2 ⟨rfl, hb2⟩
    dsimp only
    have HB2 := Lib.hid (bthen HB1.out hb2)
    have HE2 := Lib.hid (HE1.out.below hb2)
    clear hb2
    go_wp2_with (go_at_call 15; (with_reducible refine (HS.out _ HB2.out).mono ?_))
    rintro e w3 ⟨rfl, hb3⟩
    dsimp only
    have HB3 := Lib.hid (bthen HB2.out hb3)
    have HE3 := Lib.hid (HE2.out.below hb3)
    clear hb3 HB1 HB2 HE1 HE2 HO HF HS
    cases sn with
    | false =>
      clear hsn
      go_wp2_with fail
      go_ret
      exact ⟨rfl, HB3.out⟩
    | true =>
      simp only [Bool.and_eq_true, decide_eq_true_eq] at hsn
      obtain ⟨hsl, hsz⟩ := hsn
      have HSL := Lib.hid hsl
      have HSZ := Lib.hid hsz
      have hn1 : n ≤ 1000 := by rw [← HN.out]; omega
      clear hsl hsz
      by_cases hn0 : n = 0
      · subst hn0
        go_wp2_with fail
        go_ret
        exact ⟨rfl, HB3.out⟩
      · have hnb : ((n : Int) == 0) = false := by rw [beq_eq_false_iff_ne]; omega
        have hnp : 0 < n := by omega
        clear hn0
        have HBW := Lib.hid (HB3.out.mono (Nat.le_refl _))
        obtain ⟨i0, hi, hz0, hz1, hz2⟩ := info_parts infoStr
        have HI := Lib.hid (And.intro hi (And.intro hz0 (And.intro hz1 hz2)))
        clear hi hz0 hz1 hz2
        go_wp2_with fail
        go_loopg [3, 24] n (fun gh vo vi wr => ∃ k : Nat, vi = .int .i64 k ∧ k ≤ n ∧ gh = n - k ∧ wr.ownsRow w3.heap.size 9 1 vo k (((l.take k).map quoB).map Value.string) ∧ (∀ x ∈ l.take k, (39 : UInt8) ∉ x.data.toList) ∧ (k = 0 ∨ ∃ g c, vo = .slice (some ⟨g, 0, none⟩) k c) ∧ Below w3.heap.size w3 wr)
        case atStart => exact ⟨0, rfl, Nat.zero_le _, rfl, World.ownsRow_nil _ _ _ _, by simp, .inl rfl, Below.refl _ _⟩
        case round =>
          obtain ⟨k, rfl, hkn, rfl, how, hno, hsh, hbw⟩ := hrel
          have HOW := Lib.hid how
          have HNO := Lib.hid hno
          have HSH := Lib.hid hsh
          have HBX := Lib.hid hbw
          clear how hno hsh hbw
          by_cases hlt : k < n
          · have hkz : (k : Int) < (n : Int) := by omega
            have hkl : k < l.length := by rw [HN.out]; exact hlt
            have hk2 := Kd.C_below HK.out (bthen HB3.out HBX.out)
            obtain ⟨ad, rfl, hcell⟩ := Kd.at_string hk2 (k : Int) (by omega) hkz
            rw [rd_at hkl] at hcell
            have hcell2 : wr.cell? (ad.add k) = some (.string l[k]) := hcell
            have hxs : l[k].size ≤ 1000 := Nat.le_trans (szSum_mem (List.getElem_mem hkl)) (by have := HSZ.out; omega)
            have hsnoc := take_snoc hkl
            obtain ⟨X, hX⟩ : ∃ X, l[k] = X := ⟨_, rfl⟩
            rw [hX] at hcell2 hxs hsnoc
            obtain ⟨hs, hhs⟩ : ∃ hs, decide ((39 : UInt8) ∈ X.data.toList) = hs := ⟨_, rfl⟩
            have HH := Lib.hid (fun W => has_at X 39 39 W hs rfl (by omega) hhs)
            have HHS := Lib.hid hhs
            have HSN := Lib.hid hsnoc
            clear hhs hsnoc hk2 hcell hX hkl
            go_wp2_with (go_at_call 18; (with_reducible refine (HH.out _).mono ?_))
            rintro e w4 ⟨rfl, hb4⟩
            dsimp only
            have HB4 := Lib.hid (bthen HBX.out hb4)
            have HOW4 := Lib.hid (own_bl HOW.out hb4)
            clear hb4 hcell2
            cases hs with
            | true =>
              go_wp2_with fail
              go_ret
              exact ⟨rfl, bthen HB3.out HB4.out⟩
            | false =>
              by_cases hx0 : X.size = 0
              · obtain rfl := ba_empty hx0
                go_wp2_with fail
                go_ret
                exact ⟨rfl, bthen HB3.out HB4.out⟩
              · have hxe : X.toList.isEmpty = false := by
                  rw [Lib.toList_data]
                  cases h9 : X.data.toList with
                  | nil => exact absurd (by rw [Lib.size_eq, h9]; rfl) hx0
                  | cons a b => rfl
                have hz4 : w3.heap.size ≤ w4.heap.size := HB4.out.size
                go_wp2_with (at_builtin; refine wpList_append_own _ rfl _ _ 24 rfl w3.heap.size 9 i0 (.string ByteArray.empty) 1 16 Tryd.underlying24 HI.out.1 HI.out.2.1 HI.out.2.2.1 HI.out.2.2.2 rfl (by decide) _ _ _ rfl (HOW4.out.alloc _) ⟨w4.heap.size, 0, none⟩ 1 1 [.string (quoB X)] rfl rfl ?c1 ?c2 ?c3 ?c4 ?c5 ?_)
                case c1 => exact cell_one_new _ _ _
                case c2 => intro u hu; simp at hu; subst hu; rfl
                case c3 => unfold maxLen; omega
                case c4 => omega
                case c5 => simp; omega
                intro v' w5 hown5 hgr5 _
                have hb5 := (HB4.out.alloc HB4.out.size (.cells #[.string (quoB X)] 9)).grown hgr5 (by simp; omega) (fun j hj => (HOW4.out.lt j hj).1)
                have HB5 := Lib.hid hb5
                have HOW5 := Lib.hid hown5
                clear hb5 hgr5 hown5
                go_wp2_with fail
                go_roundg (n - (k + 1))
                case measure => omega
                case rel =>
                  have ho := HOW5.out
                  refine ⟨k + 1, by go_num, by omega, rfl, ?_, ?_, .inr (own_sl ho (.inr (Nat.succ_pos k))), HB5.out⟩
                  · rw [HSN.out]; simpa [List.map_append, List.map_map, List.map_take] using ho
                  · rw [HSN.out]
                    intro x hx
                    rcases List.mem_append.1 hx with hx | hx
                    · exact HNO.out x hx
                    · simp at hx; subst hx; exact of_decide_eq_false HHS.out
          · have hkz : ¬ (k : Int) < (n : Int) := by omega
            obtain rfl : k = n := by omega
            rcases HSH.out with h0 | ⟨g, c2, rfl⟩
            · omega
            have htk : l.take k = l := List.take_of_length_le (by rw [HN.out]; exact Nat.le_refl _)
            have how := HOW.out
            rw [htk] at how
            have hc2 := own_le how
            have HKO := Lib.hid (kc_ownB how (by rw [List.length_map, HN.out]) (by omega))
            have hne : l ≠ [] := by intro e; have := HN.out; rw [e] at this; simp at this; omega
            have HWD := Lib.hid (quo_ok l hne HSL.out (by have := HNO.out; rwa [htk] at this))
            have hlm : (l.map quoB).length = k := by rw [List.length_map, HN.out]
            have hsum := quo_sum l
            have hszz := HSZ.out
            have hjs := joined_size (l.map quoB)
            obtain ⟨J, hJ⟩ : ∃ J, joinedB ⟨#[32]⟩ (l.map quoB) = J := ⟨_, rfl⟩
            have HJ := Lib.hid (fun W hk => joined_at (some ⟨g, 0, none⟩) k c2 (l.map quoB) ⟨#[32]⟩ W J hk hlm hc2 (by omega) (by decide) (by omega) hJ)
            have hJs : J.size ≤ 5000 := by rw [← hJ]; omega
            have HW := Lib.hid (fun W hE => words0 J (some (laOf l, -1)) (by have := HWD.out; rw [hJ] at this; exact this) W (by omega) hE)
            clear how htk hne hlm hsum hszz hjs hJ
            go_wp2_with (go_at_call 17; (with_reducible refine (HJ.out _ HKO.out).mono ?_))
            intro e w4 he4 hb4
            subst he4
            dsimp only
            have HB4 := Lib.hid (bthen HB3.out (bthen HBX.out hb4))
            have HE4 := Lib.hid (HE3.out.below (bthen HBX.out hb4))
            clear hb4
            go_wp2_with (go_at_call 11; (with_reducible refine (HW.out _ HE4.out).mono ?_))
            intro e w5 hp
            obtain ⟨g5, c5, rfl, ho5, hb5⟩ := w0_some hp
            have hc5 := own_le ho5
            have hla : (laOf l).length = k := by rw [laOf_length, HN.out]
            rw [hla] at ho5 hc5 ⊢
            have hk5 := kc_own ho5 hla (by omega)
            rw [baOf_laOf] at hk5
            have HQ := Lib.hid (eqTexts_at (some ⟨g5, 0, none⟩) A k k c5 c l l w5 true hk5 (Kd.C_below HK.out (bthen HB4.out hb5)) HN.out HN.out hc5 hc (by omega) (by simp))
            have HB5 := Lib.hid (bthen HB4.out hb5)
            clear hp ho5 hb5 hla hk5
            dsimp only
            go_wp2_with (go_at_call 13; (with_reducible refine HQ.out.mono ?_); rintro e w6 ⟨rfl, hb6⟩; dsimp only)
            go_ret
            exact ⟨rfl, bthen HB5.out hb6⟩
end Go.Proofs.YtcjfcjlendibpaaDoor
