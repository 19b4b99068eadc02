/- The walk of the law FnDeleteTwice. -/
import Derived.Test.YtdgaehkfdaacjaaDoorTrBare
set_option linter.unusedVariables false
namespace Go.Proofs.YtdgaehkfdaacjaaDoor
open Go.RowKit Plain

theorem vld_of2 {s : ByteArray} (h : vld s = true) : s.size ≤ 4096 ∧ Lib.validD s.data.toList = true := by
  unfold vld at h
  rw [Bool.and_eq_true] at h
  exact ⟨of_decide_eq_true h.1, h.2⟩
theorem he_eq : trS ⟨#[108, 111]⟩ nilS ⟨#[104, 101, 108, 108, 111]⟩ = ⟨#[104, 101]⟩ := by decide +kernel
theorem he_c (w : World) (hT : Tabs w) : Calls Tryd.prog 16 #[.string ⟨#[104, 101, 108, 108, 111]⟩, .string ⟨#[108, 111]⟩] w fun e w' => e = .returned (.string ⟨#[104, 101]⟩) ∧ Below w.heap.size w w' := by
  have := iDelete ⟨#[104, 101, 108, 108, 111]⟩ ⟨#[108, 111]⟩ w (by decide) (by decide) hT
  rwa [he_eq] at this

set_option maxHeartbeats 8000000 in
set_option maxRecDepth 100000 in
theorem fnDeleteTwice_walk (s a b : ByteArray) (w : World) (hs0 : s.size ≤ 140737488351232) (ha0 : a.size ≤ 140737488351232) (hb0 : b.size ≤ 140737488351232) (hT : Tabs w) :
    Calls Tryd.prog 8 #[.string s, .string a, .string b] w fun e w' => e = .returned (.bool true) ∧ Below w.heap.size w w' := by
  by_cases hs : 2147483647 < s.size
  · have hzs : (2147483647 : Int) < (s.size : Int) := by omega
    go_enter Tryd.func8, Tryd.ntmps8
    go_wp2
    go_ret
    exact ⟨rfl, Below.refl _ _⟩
  have hzs : ¬ (2147483647 : Int) < (s.size : Int) := by omega
  by_cases ha : 2147483647 < a.size
  · have hza : (2147483647 : Int) < (a.size : Int) := by omega
    go_enter Tryd.func8, Tryd.ntmps8
    go_wp2
    go_ret
    exact ⟨rfl, Below.refl _ _⟩
  have hza : ¬ (2147483647 : Int) < (a.size : Int) := by omega
  by_cases hb : 2147483647 < b.size
  · have hzb : (2147483647 : Int) < (b.size : Int) := by omega
    go_enter Tryd.func8, Tryd.ntmps8
    go_wp2
    go_ret
    exact ⟨rfl, Below.refl _ _⟩
  have hzb : ¬ (2147483647 : Int) < (b.size : Int) := by omega
  have HVa := Lib.hid (fun w hT => valid_any s w (by omega) hT)
  have HSf := Lib.hid (fun w => simple_any a w (by omega))
  have HSt := Lib.hid (fun w => simple_any b w (by omega))
  obtain ⟨bf, hbf⟩ : ∃ bf, decide (3 + sumSz [s, a, b] ≤ 400) = bf := ⟨_, rfl⟩
  have HF : Hid (∀ w : World, Calls Tryd.prog 11 #[.slice (some ⟨w.heap.size, 0, none⟩) 3 3] (w.alloc (.cells #[.string s, .string a, .string b] 9)) fun e w' => e = .returned (.bool bf) ∧ w.alloc (.cells #[.string s, .string a, .string b] 9) = w') :=
    Lib.hid (fun w => few_row [s, a, b] 3 rfl w (by omega) (by simp only [sumSz, List.map_cons, List.map_nil, List.sum_cons, List.sum_nil]; omega) bf hbf)
  cases hva : vld s with
  | false =>
    rw [hva] at HVa
    clear hva hbf
    go_enter Tryd.func8, Tryd.ntmps8
    go_wp2_with (go_at_call 16; (with_reducible refine (he_c _ hT).mono ?_); rintro e w1 ⟨rfl, hb1⟩; dsimp only)
    have hT1 := hT.below hb1
    go_wp2_with (go_at_call 19; (with_reducible refine (HVa.out _ hT1).mono ?_); rintro e w2 ⟨rfl, hb2⟩; dsimp only)
    have hT2 := hT1.below hb2
    have hB2 := bthen hb1 hb2
    go_ret
    exact ⟨rfl, hB2⟩
  | true =>
    rw [hva] at HVa
    obtain ⟨hv1, hv2⟩ := vld_of2 hva
    clear hva
    cases bf with
    | false =>
      clear hbf hv1 hv2
      go_enter Tryd.func8, Tryd.ntmps8
      go_wp2_with (go_at_call 16; (with_reducible refine (he_c _ hT).mono ?_); rintro e w1 ⟨rfl, hb1⟩; dsimp only)
      have hT1 := hT.below hb1
      go_wp2_with (go_at_call 19; (with_reducible refine (HVa.out _ hT1).mono ?_); rintro e w2 ⟨rfl, hb2⟩; dsimp only)
      have hT2 := hT1.below hb2
      have hB2 := bthen hb1 hb2
      go_wp2_with (go_at_call 11; (with_reducible refine (HF.out _).mono ?_); rintro e w4 ⟨rfl, rfl⟩; dsimp only)
      have hB4 := bthen hB2 ((Below.refl _ w2).alloc (Nat.le_refl _) (.cells #[.string s, .string a, .string b] 9))
      have hT4 := hT.below hB4
      go_ret
      exact ⟨rfl, hB4⟩
    | true =>
      have hsum := of_decide_eq_true hbf
      simp only [sumSz, List.map_cons, List.map_nil, List.sum_cons, List.sum_nil] at hsum
      have hs1 : s.size ≤ 400 := by omega
      have ha1 : a.size ≤ 400 := by omega
      have hb1' : b.size ≤ 400 := by omega
      clear hbf hsum hv1
      cases hsf : simB a with
      | false =>
        rw [hsf] at HSf
        clear hsf hv2
        go_enter Tryd.func8, Tryd.ntmps8
        go_wp2_with (go_at_call 16; (with_reducible refine (he_c _ hT).mono ?_); rintro e w1 ⟨rfl, hb1⟩; dsimp only)
        have hT1 := hT.below hb1
        go_wp2_with (go_at_call 19; (with_reducible refine (HVa.out _ hT1).mono ?_); rintro e w2 ⟨rfl, hb2⟩; dsimp only)
        have hT2 := hT1.below hb2
        have hB2 := bthen hb1 hb2
        go_wp2_with (go_at_call 11; (with_reducible refine (HF.out _).mono ?_); rintro e w4 ⟨rfl, rfl⟩; dsimp only)
        have hB4 := bthen hB2 ((Below.refl _ w2).alloc (Nat.le_refl _) (.cells #[.string s, .string a, .string b] 9))
        have hT4 := hT.below hB4
        go_wp2_with (go_at_call 20; (with_reducible refine (HSf.out _).mono ?_); rintro e w5 ⟨rfl, rfl⟩; dsimp only)
        go_ret
        exact ⟨rfl, hB4⟩
      | true =>
        rw [hsf] at HSf
        cases hst : simB b with
        | false =>
          rw [hst] at HSt
          clear hst hsf hv2
          go_enter Tryd.func8, Tryd.ntmps8
          go_wp2_with (go_at_call 16; (with_reducible refine (he_c _ hT).mono ?_); rintro e w1 ⟨rfl, hb1⟩; dsimp only)
          have hT1 := hT.below hb1
          go_wp2_with (go_at_call 19; (with_reducible refine (HVa.out _ hT1).mono ?_); rintro e w2 ⟨rfl, hb2⟩; dsimp only)
          have hT2 := hT1.below hb2
          have hB2 := bthen hb1 hb2
          go_wp2_with (go_at_call 11; (with_reducible refine (HF.out _).mono ?_); rintro e w4 ⟨rfl, rfl⟩; dsimp only)
          have hB4 := bthen hB2 ((Below.refl _ w2).alloc (Nat.le_refl _) (.cells #[.string s, .string a, .string b] 9))
          have hT4 := hT.below hB4
          go_wp2_with (go_at_call 20; (with_reducible refine (HSf.out _).mono ?_); rintro e w5 ⟨rfl, rfl⟩; dsimp only)
          go_wp2_with (go_at_call 20; (with_reducible refine (HSt.out _).mono ?_); rintro e w5 ⟨rfl, rfl⟩; dsimp only)
          go_ret
          exact ⟨rfl, hB4⟩
        | true =>
          rw [hst] at HSt
          have hab : (a ++ b).size ≤ 2000 := by simp; omega
          have sab := simB_append hsf hst
          have z1 := dlS_len a s
          have z2 := dlS_len b s
          have e1 : dlS a (dlS a s) = dlS a s := congrArg (fun l => (⟨l.toArray⟩ : ByteArray)) (dl_twice a.data.toList hv2)
          have e2 : dlS a (dlS b s) = dlS b (dlS a s) := congrArg (fun l => (⟨l.toArray⟩ : ByteArray)) (dl_order b.data.toList a.data.toList hv2)
          have e3 : dlS (a ++ b) s = dlS b (dlS a s) := by
            have := dl_both a.data.toList b.data.toList (simB_bare hsf).2 (simB_bare hst).2 hv2
            unfold dlS
            rw [show (a ++ b).data.toList = a.data.toList ++ b.data.toList by simp, ← this]
          have e0 : cntB a.data.toList (dlS a s).data.toList = 0 := by
            rw [cntB_del hsf]
            exact dl_none a.data.toList hv2
          have HT := Lib.hid (fun w hT => trS_del hsf s ▸ iDelete s a w (by omega) (by omega) hT)
          have HC := Lib.hid (fun w hT => e0 ▸ iCount (dlS a s) a w (by omega) (by omega) hT)
          have HTa := Lib.hid (fun w hT => e1 ▸ trS_del hsf (dlS a s) ▸ iDelete (dlS a s) a w (by omega) (by omega) hT)
          have HTb := Lib.hid (fun w hT => trS_del hst (dlS a s) ▸ iDelete (dlS a s) b w (by omega) (by omega) hT)
          have HV := Lib.hid (fun w hT => trS_del hst s ▸ iDelete s b w (by omega) (by omega) hT)
          have HVV := Lib.hid (fun w hT => e2 ▸ trS_del hsf (dlS b s) ▸ iDelete (dlS b s) a w (by omega) (by omega) hT)
          have HAB := Lib.hid (fun w hT => e3 ▸ trS_del sab s ▸ iDelete s (a ++ b) w (by omega) (by omega) hT)
          generalize dlS b (dlS a s) = U at HTb HVV HAB e2 e3
          generalize dlS a s = T at *
          generalize dlS b s = V at *
          clear e0 e1 e2 e3 sab hst hsf hv2 z1 z2
          go_enter Tryd.func8, Tryd.ntmps8
          go_wp2_with (go_at_call 16; (with_reducible refine (he_c _ hT).mono ?_); rintro e w1 ⟨rfl, hb1⟩; dsimp only)
          have hT1 := hT.below hb1
          go_wp2_with (go_at_call 19; (with_reducible refine (HVa.out _ hT1).mono ?_); rintro e w2 ⟨rfl, hb2⟩; dsimp only)
          have hT2 := hT1.below hb2
          have hB2 := bthen hb1 hb2
          go_wp2_with (go_at_call 11; (with_reducible refine (HF.out _).mono ?_); rintro e w4 ⟨rfl, rfl⟩; dsimp only)
          have hB4 := bthen hB2 ((Below.refl _ w2).alloc (Nat.le_refl _) (.cells #[.string s, .string a, .string b] 9))
          have hT4 := hT.below hB4
          go_wp2_with (go_at_call 20; (with_reducible refine (HSf.out _).mono ?_); rintro e w5 ⟨rfl, rfl⟩; dsimp only)
          go_wp2_with (go_at_call 20; (with_reducible refine (HSt.out _).mono ?_); rintro e w5 ⟨rfl, rfl⟩; dsimp only)
          go_wp2_with (go_at_call 16; (with_reducible refine (HT.out _ hT4).mono ?_); rintro e w5 ⟨rfl, hb5⟩; dsimp only)
          have hT5 := hT4.below hb5
          have hB5 := bthen hB4 hb5
          go_wp2_with (go_at_call 26; (with_reducible refine (HC.out _ hT5).mono ?_); rintro e w6 ⟨rfl, hb6⟩; dsimp only)
          have hT6 := hT5.below hb6
          have hB6 := bthen hB5 hb6
          go_wp2_with (go_at_call 16; (with_reducible refine (HTa.out _ hT6).mono ?_); rintro e w7 ⟨rfl, hb7⟩; dsimp only)
          have hT7 := hT6.below hb7
          have hB7 := bthen hB6 hb7
          go_wp2_with (go_at_call 16; (with_reducible refine (HTb.out _ hT7).mono ?_); rintro e w8 ⟨rfl, hb8⟩; dsimp only)
          have hT8 := hT7.below hb8
          have hB8 := bthen hB7 hb8
          go_wp2_with (go_at_call 16; (with_reducible refine (HV.out _ hT8).mono ?_); rintro e w9 ⟨rfl, hb9⟩; dsimp only)
          have hT9 := hT8.below hb9
          have hB9 := bthen hB8 hb9
          go_wp2_with (go_at_call 16; (with_reducible refine (HVV.out _ hT9).mono ?_); rintro e w10 ⟨rfl, hb10⟩; dsimp only)
          have hT10 := hT9.below hb10
          have hB10 := bthen hB9 hb10
          go_wp2_with (go_at_call 16; (with_reducible refine (HTb.out _ hT10).mono ?_); rintro e w11 ⟨rfl, hb11⟩; dsimp only)
          have hT11 := hT10.below hb11
          have hB11 := bthen hB10 hb11
          go_wp2_with (go_at_call 16; (with_reducible refine (HAB.out _ hT11).mono ?_); rintro e w12 ⟨rfl, hb12⟩; dsimp only)
          have hT12 := hT11.below hb12
          have hB12 := bthen hB11 hb12
          go_ret
          exact ⟨rfl, hB12⟩
end Go.Proofs.YtdgaehkfdaacjaaDoor
