/- The walk of the law FnTranslateJoined. -/
import Derived.Test.YtdgaehkfdaacjaaDoorTrSimple
import Derived.Test.YtdgaehkfdaacjaaDoorSimp
set_option linter.unusedVariables false
namespace Go.Proofs.YtdgaehkfdaacjaaDoor
open Go.RowKit Plain

theorem trL_append (d : TD) (fl : Int × Bool × Bool × Bool) (a b : List UInt8) (h : Lib.validD a = true) : trL d fl (a ++ b) = trL d fl a ++ trL d fl b := by
  unfold trL
  rw [segs_append a b h, List.map_append, List.flatten_append]
theorem trS_append (f t a b : ByteArray) (h : Lib.validD a.data.toList = true) : trS f t (a ++ b) = trS f t a ++ trS f t b := by
  have e : (a ++ b).data.toList = a.data.toList ++ b.data.toList := by simp
  apply ByteArray.ext
  apply Array.toList_inj.1
  unfold trS
  rw [e]
  unfold trB
  split
  · simp
  · rw [trL_append _ _ _ _ h]; simp
theorem cntL_append (d : TD) (fl : Int × Bool × Bool × Bool) (a b : List UInt8) (h : Lib.validD a = true) : cntL d fl (a ++ b) = cntL d fl a + cntL d fl b := by
  unfold cntL
  rw [segs_append a b h, List.filter_append, List.length_append]
theorem cntB_append (f a b : List UInt8) (h : Lib.validD a = true) : cntB f (a ++ b) = cntB f a + cntB f b := by
  unfold cntB
  split
  · rfl
  · exact cntL_append _ _ _ _ h
theorem cntB_le (f s : List UInt8) : cntB f s ≤ s.length := by
  unfold cntB
  split
  · omega
  · exact cntL_le _ _ _
theorem maplen (d : TD) (fl : Int × Bool × Bool × Bool) : ∀ cs : List (List UInt8), (∀ c ∈ cs, c ≠ []) → ((cs.map (trSeg d fl)).flatten).length ≤ 4 * cs.flatten.length
  | [], _ => by simp
  | c :: cs, h => by
    have h1 := trSeg_len d fl c (List.length_pos_iff.2 (h c (List.mem_cons_self ..)))
    have h2 := maplen d fl cs (fun x hx => h x (List.mem_cons_of_mem _ hx))
    simp only [List.map_cons, List.flatten_cons, List.length_append]
    omega
theorem trL_len (d : TD) (fl : Int × Bool × Bool × Bool) (l : List UInt8) : (trL d fl l).length ≤ 4 * l.length := by
  have := maplen d fl (segs l) (segs_ne l)
  rwa [segs_flatten] at this
theorem trS_len (f t s : ByteArray) : (trS f t s).size ≤ 4 * s.size := by
  rw [Lib.size_eq, Lib.size_eq s]
  show (trB f.data.toList t.data.toList s.data.toList).toArray.toList.length ≤ _
  unfold trB
  split
  · simp; omega
  · exact trL_len _ _ _
theorem vld_of {s : ByteArray} (h : vld s = true) : s.size ≤ 4096 ∧ Lib.validD s.data.toList = true := by
  unfold vld at h
  rw [Bool.and_eq_true] at h
  exact ⟨of_decide_eq_true h.1, h.2⟩
theorem hello_eq : trS ⟨#[97, 45, 122]⟩ ⟨#[65, 45, 90]⟩ ⟨#[104, 101, 108, 108, 111]⟩ = ⟨#[72, 69, 76, 76, 79]⟩ := by decide +kernel
theorem hello_c (w : World) (hT : Tabs w) : Calls Tryd.prog 18 #[.string ⟨#[104, 101, 108, 108, 111]⟩, .string ⟨#[97, 45, 122]⟩, .string ⟨#[65, 45, 90]⟩] w fun e w' => e = .returned (.string ⟨#[72, 69, 76, 76, 79]⟩) ∧ Below w.heap.size w w' := by
  have := iTranslate ⟨#[104, 101, 108, 108, 111]⟩ ⟨#[97, 45, 122]⟩ ⟨#[65, 45, 90]⟩ w (by decide) (by decide) (by decide) hT
  rwa [hello_eq] at this

set_option maxHeartbeats 8000000 in
set_option maxRecDepth 100000 in
theorem fnTranslateJoined_walk (a b f t : ByteArray) (w : World) (ha0 : a.size ≤ 140737488351232) (hb0 : b.size ≤ 140737488351232) (hf0 : f.size ≤ 140737488351232) (ht0 : t.size ≤ 140737488351232) (hT : Tabs w) :
    Calls Tryd.prog 9 #[.string a, .string b, .string f, .string t] w fun e w' => e = .returned (.bool true) ∧ Below w.heap.size w w' := by
  by_cases ha : 2147483647 < a.size
  · have hza : (2147483647 : Int) < (a.size : Int) := by omega
    go_enter Tryd.func9, Tryd.ntmps9
    go_wp2
    go_ret
    exact ⟨rfl, Below.refl _ _⟩
  have hza : ¬ (2147483647 : Int) < (a.size : Int) := by omega
  by_cases hb : 2147483647 < b.size
  · have hzb : (2147483647 : Int) < (b.size : Int) := by omega
    go_enter Tryd.func9, Tryd.ntmps9
    go_wp2
    go_ret
    exact ⟨rfl, Below.refl _ _⟩
  have hzb : ¬ (2147483647 : Int) < (b.size : Int) := by omega
  by_cases hf : 2147483647 < f.size
  · have hzf : (2147483647 : Int) < (f.size : Int) := by omega
    go_enter Tryd.func9, Tryd.ntmps9
    go_wp2
    go_ret
    exact ⟨rfl, Below.refl _ _⟩
  have hzf : ¬ (2147483647 : Int) < (f.size : Int) := by omega
  by_cases ht : 2147483647 < t.size
  · have hzt : (2147483647 : Int) < (t.size : Int) := by omega
    go_enter Tryd.func9, Tryd.ntmps9
    go_wp2
    go_ret
    exact ⟨rfl, Below.refl _ _⟩
  have hzt : ¬ (2147483647 : Int) < (t.size : Int) := by omega
  have HVa := Lib.hid (fun w hT => valid_any a w (by omega) hT)
  have HVb := Lib.hid (fun w hT => valid_any b w (by omega) hT)
  have HSf := Lib.hid (fun w => simple_any f w (by omega))
  have HSt := Lib.hid (fun w => simple_any t w (by omega))
  obtain ⟨bf, hbf⟩ : ∃ bf, decide (4 + sumSz [a, b, f, t] ≤ 400) = bf := ⟨_, rfl⟩
  have HF : Hid (∀ w : World, Calls Tryd.prog 11 #[.slice (some ⟨w.heap.size, 0, none⟩) 4 4] (w.alloc (.cells #[.string a, .string b, .string f, .string t] 9)) fun e w' => e = .returned (.bool bf) ∧ w.alloc (.cells #[.string a, .string b, .string f, .string t] 9) = w') :=
    Lib.hid (fun w => few_row [a, b, f, t] 4 rfl w (by omega) (by simp only [sumSz, List.map_cons, List.map_nil, List.sum_cons, List.sum_nil]; omega) bf hbf)
  cases hva : vld a with
  | false =>
    rw [hva] at HVa
    clear hva hbf
    go_enter Tryd.func9, Tryd.ntmps9
    go_wp2_with (go_at_call 18; (with_reducible refine (hello_c _ hT).mono ?_); rintro e w1 ⟨rfl, hb1⟩; dsimp only)
    have hT1 := hT.below hb1
    go_wp2_with (go_at_call 19; (with_reducible refine (HVa.out _ hT1).mono ?_); rintro e w2 ⟨rfl, hb2⟩; dsimp only)
    have hT2 := hT1.below hb2
    have hB2 := bthen hb1 hb2
    go_ret
    exact ⟨rfl, hB2⟩
  | true =>
    rw [hva] at HVa
    obtain ⟨ha1, ha2⟩ := vld_of hva
    clear hva
    cases hvb : vld b with
    | false =>
      rw [hvb] at HVb
      clear hvb hbf
      go_enter Tryd.func9, Tryd.ntmps9
      go_wp2_with (go_at_call 18; (with_reducible refine (hello_c _ hT).mono ?_); rintro e w1 ⟨rfl, hb1⟩; dsimp only)
      have hT1 := hT.below hb1
      go_wp2_with (go_at_call 19; (with_reducible refine (HVa.out _ hT1).mono ?_); rintro e w2 ⟨rfl, hb2⟩; dsimp only)
      have hT2 := hT1.below hb2
      have hB2 := bthen hb1 hb2
      go_wp2_with (go_at_call 19; (with_reducible refine (HVb.out _ hT2).mono ?_); rintro e w3 ⟨rfl, hb3⟩; dsimp only)
      have hT3 := hT2.below hb3
      have hB3 := bthen hB2 hb3
      go_ret
      exact ⟨rfl, hB3⟩
    | true =>
      rw [hvb] at HVb
      obtain ⟨hb1, hb2⟩ := vld_of hvb
      clear hvb
      cases bf with
      | false =>
        clear hbf
        go_enter Tryd.func9, Tryd.ntmps9
        go_wp2_with (go_at_call 18; (with_reducible refine (hello_c _ hT).mono ?_); rintro e w1 ⟨rfl, hb1⟩; dsimp only)
        have hT1 := hT.below hb1
        go_wp2_with (go_at_call 19; (with_reducible refine (HVa.out _ hT1).mono ?_); rintro e w2 ⟨rfl, hb2⟩; dsimp only)
        have hT2 := hT1.below hb2
        have hB2 := bthen hb1 hb2
        go_wp2_with (go_at_call 19; (with_reducible refine (HVb.out _ hT2).mono ?_); rintro e w3 ⟨rfl, hb3⟩; dsimp only)
        have hT3 := hT2.below hb3
        have hB3 := bthen hB2 hb3
        go_wp2_with (go_at_call 11; (with_reducible refine (HF.out _).mono ?_); rintro e w4 ⟨rfl, rfl⟩; dsimp only)
        have hB4 := bthen hB3 ((Below.refl _ w3).alloc (Nat.le_refl _) (.cells #[.string a, .string b, .string f, .string t] 9))
        have hT4 := hT.below hB4
        go_ret
        exact ⟨rfl, hB4⟩
      | true =>
        have hsum := of_decide_eq_true hbf
        simp only [sumSz, List.map_cons, List.map_nil, List.sum_cons, List.sum_nil] at hsum
        have hf1 : f.size ≤ 400 := by omega
        have ht1 : t.size ≤ 400 := by omega
        have hb1' : b.size ≤ 4096 := hb1
        clear hbf hsum hb1 hb2
        cases hsf : simB f with
        | false =>
          rw [hsf] at HSf
          clear hsf
          go_enter Tryd.func9, Tryd.ntmps9
          go_wp2_with (go_at_call 18; (with_reducible refine (hello_c _ hT).mono ?_); rintro e w1 ⟨rfl, hb1⟩; dsimp only)
          have hT1 := hT.below hb1
          go_wp2_with (go_at_call 19; (with_reducible refine (HVa.out _ hT1).mono ?_); rintro e w2 ⟨rfl, hb2⟩; dsimp only)
          have hT2 := hT1.below hb2
          have hB2 := bthen hb1 hb2
          go_wp2_with (go_at_call 19; (with_reducible refine (HVb.out _ hT2).mono ?_); rintro e w3 ⟨rfl, hb3⟩; dsimp only)
          have hT3 := hT2.below hb3
          have hB3 := bthen hB2 hb3
          go_wp2_with (go_at_call 11; (with_reducible refine (HF.out _).mono ?_); rintro e w4 ⟨rfl, rfl⟩; dsimp only)
          have hB4 := bthen hB3 ((Below.refl _ w3).alloc (Nat.le_refl _) (.cells #[.string a, .string b, .string f, .string t] 9))
          have hT4 := hT.below hB4
          go_wp2_with (go_at_call 20; (with_reducible refine (HSf.out _).mono ?_); rintro e w5 ⟨rfl, rfl⟩; dsimp only)
          go_ret
          exact ⟨rfl, hB4⟩
        | true =>
          rw [hsf] at HSf
          clear hsf
          cases hst : simB t with
          | false =>
            rw [hst] at HSt
            clear hst
            go_enter Tryd.func9, Tryd.ntmps9
            go_wp2_with (go_at_call 18; (with_reducible refine (hello_c _ hT).mono ?_); rintro e w1 ⟨rfl, hb1⟩; dsimp only)
            have hT1 := hT.below hb1
            go_wp2_with (go_at_call 19; (with_reducible refine (HVa.out _ hT1).mono ?_); rintro e w2 ⟨rfl, hb2⟩; dsimp only)
            have hT2 := hT1.below hb2
            have hB2 := bthen hb1 hb2
            go_wp2_with (go_at_call 19; (with_reducible refine (HVb.out _ hT2).mono ?_); rintro e w3 ⟨rfl, hb3⟩; dsimp only)
            have hT3 := hT2.below hb3
            have hB3 := bthen hB2 hb3
            go_wp2_with (go_at_call 11; (with_reducible refine (HF.out _).mono ?_); rintro e w4 ⟨rfl, rfl⟩; dsimp only)
            have hB4 := bthen hB3 ((Below.refl _ w3).alloc (Nat.le_refl _) (.cells #[.string a, .string b, .string f, .string t] 9))
            have hT4 := hT.below hB4
            go_wp2_with (go_at_call 20; (with_reducible refine (HSf.out _).mono ?_); rintro e w5 ⟨rfl, rfl⟩; dsimp only)
            go_wp2_with (go_at_call 20; (with_reducible refine (HSt.out _).mono ?_); rintro e w5 ⟨rfl, rfl⟩; dsimp only)
            go_ret
            exact ⟨rfl, hB4⟩
          | true =>
            rw [hst] at HSt
            clear hst
            have hab : (a ++ b).size ≤ 2147483647 := by simp; omega
            have eT := trS_append f t a b ha2
            have eC := cntB_append f.data.toList a.data.toList b.data.toList ha2
            have l1 := cntB_le f.data.toList a.data.toList
            have l2 := cntB_le f.data.toList b.data.toList
            rw [← Lib.size_eq] at l1 l2
            have HTab := Lib.hid (fun w hT => eT ▸ iTranslate (a ++ b) f t w hab (by omega) (by omega) hT)
            have HTa := Lib.hid (fun w hT => iTranslate a f t w (by omega) (by omega) (by omega) hT)
            have HTb := Lib.hid (fun w hT => iTranslate b f t w (by omega) (by omega) (by omega) hT)
            have HCa := Lib.hid (fun w hT => iCount a f w (by omega) (by omega) hT)
            have HCb := Lib.hid (fun w hT => iCount b f w (by omega) (by omega) hT)
            have HCab : Hid (∀ w, Tabs w → Calls Tryd.prog 26 #[.string (a ++ b), .string f] w fun e w' => e = .returned (.int .i64 ((cntB f.data.toList a.data.toList : Int) + (cntB f.data.toList b.data.toList : Int))) ∧ Below w.heap.size w w') := by
              refine Lib.hid (fun w hT => ?_)
              have := iCount (a ++ b) f w hab (by omega) hT
              have e : (a ++ b).data.toList = a.data.toList ++ b.data.toList := by simp
              rw [e, eC, Int.natCast_add] at this
              exact this
            have lX := trS_len f t a
            have lY := trS_len f t b
            generalize trS f t a = X at HTab HTa lX
            generalize trS f t b = Y at HTab HTb lY
            have lX1 : X.size ≤ 20000 := by omega
            have lY1 : Y.size ≤ 20000 := by omega
            generalize cntB f.data.toList a.data.toList = n1 at HCa HCab l1
            generalize cntB f.data.toList b.data.toList = n2 at HCb HCab l2
            have m1 : (n1 : Int) ≤ 4096 := by omega
            have m2 : (n2 : Int) ≤ 4096 := by omega
            clear eT eC hab l1 l2 lX lY
            go_enter Tryd.func9, Tryd.ntmps9
            go_wp2_with (go_at_call 18; (with_reducible refine (hello_c _ hT).mono ?_); rintro e w1 ⟨rfl, hb1⟩; dsimp only)
            have hT1 := hT.below hb1
            go_wp2_with (go_at_call 19; (with_reducible refine (HVa.out _ hT1).mono ?_); rintro e w2 ⟨rfl, hb2⟩; dsimp only)
            have hT2 := hT1.below hb2
            have hB2 := bthen hb1 hb2
            go_wp2_with (go_at_call 19; (with_reducible refine (HVb.out _ hT2).mono ?_); rintro e w3 ⟨rfl, hb3⟩; dsimp only)
            have hT3 := hT2.below hb3
            have hB3 := bthen hB2 hb3
            go_wp2_with (go_at_call 11; (with_reducible refine (HF.out _).mono ?_); rintro e w4 ⟨rfl, rfl⟩; dsimp only)
            have hB4 := bthen hB3 ((Below.refl _ w3).alloc (Nat.le_refl _) (.cells #[.string a, .string b, .string f, .string t] 9))
            have hT4 := hT.below hB4
            go_wp2_with (go_at_call 20; (with_reducible refine (HSf.out _).mono ?_); rintro e w5 ⟨rfl, rfl⟩; dsimp only)
            go_wp2_with (go_at_call 20; (with_reducible refine (HSt.out _).mono ?_); rintro e w5 ⟨rfl, rfl⟩; dsimp only)
            go_wp2_with (go_at_call 18; (with_reducible refine (HTab.out _ hT4).mono ?_); rintro e w5 ⟨rfl, hb5⟩; dsimp only)
            have hT5 := hT4.below hb5
            have hB5 := bthen hB4 hb5
            go_wp2_with (go_at_call 18; (with_reducible refine (HTa.out _ hT5).mono ?_); rintro e w6 ⟨rfl, hb6⟩; dsimp only)
            have hT6 := hT5.below hb6
            have hB6 := bthen hB5 hb6
            go_wp2_with (go_at_call 18; (with_reducible refine (HTb.out _ hT6).mono ?_); rintro e w7 ⟨rfl, hb7⟩; dsimp only)
            have hT7 := hT6.below hb7
            have hB7 := bthen hB6 hb7
            go_wp2_with (go_at_call 26; (with_reducible refine (HCab.out _ hT7).mono ?_); rintro e w8 ⟨rfl, hb8⟩; dsimp only)
            have hT8 := hT7.below hb8
            have hB8 := bthen hB7 hb8
            go_wp2_with (go_at_call 26; (with_reducible refine (HCa.out _ hT8).mono ?_); rintro e w9 ⟨rfl, hb9⟩; dsimp only)
            have hT9 := hT8.below hb9
            have hB9 := bthen hB8 hb9
            go_wp2_with (go_at_call 26; (with_reducible refine (HCb.out _ hT9).mono ?_); rintro e w10 ⟨rfl, hb10⟩; dsimp only)
            have hB10 := bthen hB9 hb10
            go_ret
            exact ⟨rfl, hB10⟩
end Go.Proofs.YtdgaehkfdaacjaaDoor
