/- The walk of the law FnTranslateAll. -/
import Derived.Test.YtdgaehkfdaacjaaDoorTrAll
import Derived.Test.YtdgaehkfdaacjaaDoorPatAny
import Derived.Test.YtdgaehkfdaacjaaDoorSimp
import Derived.Deep.LoopGhost
import Derived.Deep.QuietTactic
import Derived.BigQuiet
set_option linter.unusedVariables false
namespace Go.Proofs.YtdgaehkfdaacjaaDoor
open Go.RowKit Plain

/-- the worlds that keep all blocks of 'w9' -/
structure BW (w9 : World) where
  val : World
  prop : Below w9.heap.size w9 val
theorem wp_region_quiet_c {P : Program} {C : World → Prop} {id : Nat} {Q : Exit → Act → World → Prop} {a : Act} {w : World} {l : List Oper} (hm : P.follows .mixedOrders = true) (hB : Region.lexB .any l.toArray = true) (hC : C { w with drawn := w.drawn + 1 })
    (h : wpQuiet P l.toArray C (fun a' => ∀ w', C w' → Q .normal a' w') l a) : (Code.region id l.toArray true).wp P Q a w :=
  wp_region_quiet hm hB hC (by simpa using h)
theorem AB_eq : trS ⟨#[97, 45, 122]⟩ ⟨#[65, 45, 90]⟩ ⟨#[97, 98]⟩ = ⟨#[65, 66]⟩ := by decide +kernel
theorem ab_c (w : World) (hT : Tabs w) : Calls Tryd.prog 23 #[.string ⟨#[97, 45, 122]⟩, .string ⟨#[65, 45, 90]⟩, .slice (some ⟨w.heap.size, 0, none⟩) 1 1] (w.alloc (.cells #[.string ⟨#[97, 98]⟩] 9)) fun e w' =>
    (∃ g cap, e = .returned (.slice (some ⟨g, 0, none⟩) 1 cap) ∧ w'.cell? ⟨g, 0, none⟩ = some (.string ⟨#[65, 66]⟩)) ∧ Below w.heap.size w w' := by
  have hb0 : Below w.heap.size w (w.alloc (.cells #[.string ⟨#[97, 98]⟩] 9)) := (Below.refl _ w).alloc (Nat.le_refl _) _
  have hra : RowA (some ⟨w.heap.size, 0, none⟩) [(⟨#[97, 98]⟩ : ByteArray)] (w.alloc (.cells #[.string ⟨#[97, 98]⟩] 9)) := rowA_addr (fun k x hx => by
    have := rowS_new w [(⟨#[97, 98]⟩ : ByteArray)] 9 k x hx
    rw [add_at, Nat.zero_add]
    exact this)
  refine (trAll_any ⟨#[97, 45, 122]⟩ ⟨#[65, 45, 90]⟩ (some ⟨w.heap.size, 0, none⟩) 1 1 [(⟨#[97, 98]⟩ : ByteArray)] rfl _ hra (by decide) (by intro x hx; rw [List.mem_singleton.1 hx]; decide) (by decide) (by decide) (hT.below hb0)).mono ?_
  rintro e w' ⟨v, rfl, how, hb⟩
  refine ⟨?_, bthen hb0 hb⟩
  rcases how.2 with ⟨_, h0⟩ | ⟨g, cap, cur, rfl, _⟩
  · cases h0
  · refine ⟨g, cap, rfl, ?_⟩
    have := how.cellAt 0 (by decide)
    rw [this]
    show some (Value.string (trS _ _ _)) = _
    rw [AB_eq]

theorem emp_ne {s : ByteArray} (h : ¬ s.size = 0) : s.toList.isEmpty = false := by
  rw [ByteArray.toList_eq]
  cases h9 : s.data.toList with
  | nil => exact absurd (by rw [Lib.size_eq, h9]; rfl) h
  | cons a l => rfl
set_option maxHeartbeats 16000000 in
set_option maxRecDepth 100000 in
theorem fnTranslateAll_walk (f t : ByteArray) (A : Option Addr) (n c : Nat) (l : List ByteArray) (w : World) (hf0 : f.size ≤ 140737488351232) (ht0 : t.size ≤ 140737488351232) (hr : RowA A l w) (hn : l.length = n) (hc : n ≤ c) (hnm : n ≤ 9223372036854775807) (hT : Tabs w) :
    Calls Tryd.prog 7 #[.string f, .string t, .slice A n c] w fun e w' => e = .returned (.bool true) ∧ Below w.heap.size w w' := by
  by_cases hf : 2147483647 < f.size
  · have hzf : (2147483647 : Int) < (f.size : Int) := by omega
    go_enter Tryd.func7, Tryd.ntmps7
    go_wp2
    go_ret
    exact ⟨rfl, Below.refl _ _⟩
  have hzf : ¬ (2147483647 : Int) < (f.size : Int) := by omega
  by_cases ht : 2147483647 < t.size
  · have hzt : (2147483647 : Int) < (t.size : Int) := by omega
    go_enter Tryd.func7, Tryd.ntmps7
    go_wp2
    go_ret
    exact ⟨rfl, Below.refl _ _⟩
  have hzt : ¬ (2147483647 : Int) < (t.size : Int) := by omega
  obtain ⟨bz, hbz⟩ : ∃ bz, (decide (n ≤ 2147483647) && fitsR l) = bz := ⟨_, rfl⟩
  have HZ := Lib.hid (fits_any A n c l hn w hr hnm bz hbz)
  cases bz with
  | false =>
    clear hbz
    go_enter Tryd.func7, Tryd.ntmps7
    go_wp2_with (go_at_call 22; (with_reducible refine (HZ.out).mono ?_); rintro e w ⟨rfl, rfl⟩; dsimp only)
    go_ret
    exact ⟨rfl, Below.refl _ _⟩
  | true =>
  rw [Bool.and_eq_true] at hbz
  have hn31 : n ≤ 2147483647 := of_decide_eq_true hbz.1
  have hfs := fitsR_sum l hbz.2
  rw [hn] at hfs
  have hsz : sumSz l ≤ 2147483647 * 2147483647 := Nat.le_trans hfs (Nat.mul_le_mul_right _ hn31)
  have HAB := Lib.hid ab_c
  obtain ⟨bf, hbf⟩ : ∃ bf, decide (2 + sumSz [f, t] ≤ 400) = bf := ⟨_, rfl⟩
  have HF : Hid (∀ w : World, Calls Tryd.prog 11 #[.slice (some ⟨w.heap.size, 0, none⟩) 2 2] (w.alloc (.cells #[.string f, .string t] 9)) fun e w' => e = .returned (.bool bf) ∧ w.alloc (.cells #[.string f, .string t] 9) = w') :=
    Lib.hid (fun w => few_row [f, t] 2 rfl w (by omega) (by simp only [sumSz, List.map_cons, List.map_nil, List.sum_cons, List.sum_nil]; omega) bf hbf)
  obtain ⟨S, hS⟩ : ∃ S, n + sumSz l = S := ⟨_, rfl⟩
  have hSm : S ≤ 4611686018427387904 := by omega
  have HSA := Lib.hid (fun w hr => sizeA_any A n c l hn w hr S hS hSm)
  have HR := Lib.hid hr
  have HN := Lib.hid hn
  have HS := Lib.hid hS
  clear hbz hfs hsz hr hn hS
  cases bf with
  | false =>
    clear hbf
    go_enter Tryd.func7, Tryd.ntmps7
    go_wp2_with (go_at_call 22; (with_reducible refine (HZ.out).mono ?_); rintro e w ⟨rfl, rfl⟩; dsimp only)
    go_wp2_with (go_at_call 23; with_reducible refine (HAB.out _ hT).mono ?_)
    rintro e w1 ⟨⟨g1, cap1, rfl, hc1⟩, hb1⟩
    dsimp only
    go_wp2_with (go_at_call 11; (with_reducible refine (HF.out _).mono ?_); rintro e w4 ⟨rfl, rfl⟩; dsimp only)
    have hB4 := bthen hb1 ((Below.refl _ w1).alloc (Nat.le_refl _) (.cells #[.string f, .string t] 9))
    have hT4 := hT.below hB4
    go_ret
    exact ⟨rfl, hB4⟩
  | true =>
  have hsum := of_decide_eq_true hbf
  simp only [sumSz, List.map_cons, List.map_nil, List.sum_cons, List.sum_nil] at hsum
  have hf1 : f.size ≤ 400 := by omega
  have ht1 : t.size ≤ 400 := by omega
  clear hbf hsum
  by_cases hS1 : 1000 < S
  · have hSz : (1000 : Int) < (S : Int) := by omega
    go_enter Tryd.func7, Tryd.ntmps7
    go_wp2_with (go_at_call 22; (with_reducible refine (HZ.out).mono ?_); rintro e w ⟨rfl, rfl⟩; dsimp only)
    go_wp2_with (go_at_call 23; with_reducible refine (HAB.out _ hT).mono ?_)
    rintro e w1 ⟨⟨g1, cap1, rfl, hc1⟩, hb1⟩
    dsimp only
    go_wp2_with (go_at_call 11; (with_reducible refine (HF.out _).mono ?_); rintro e w4 ⟨rfl, rfl⟩; dsimp only)
    have hB4 := bthen hb1 ((Below.refl _ w1).alloc (Nat.le_refl _) (.cells #[.string f, .string t] 9))
    have hT4 := hT.below hB4
    have HR4 := HR.out.below hB4
    go_wp2_with (go_at_call 24; (with_reducible refine (HSA.out _ HR4).mono ?_); rintro e w4b ⟨rfl, rfl⟩; dsimp only)
    go_ret
    exact ⟨rfl, hB4⟩
  have hSz : ¬ (1000 : Int) < (S : Int) := by omega
  have hdS : decide ((1000 : Int) < (S : Int)) = false := decide_eq_false hSz
  have hnk : n ≤ 1000 := by have := HS.out; omega
  have HXS : Hid (∀ (i : Nat) (x : ByteArray), l[i]? = some x → x.size ≤ 1000) := Lib.hid (fun i x h => by have h1 := sumSz_mem h; have h2 := HS.out; omega)
  have HP1 := Lib.hid (fun w hT => pattern_any f false w (by omega) hT)
  have HP2 := Lib.hid (fun w hT => pattern_any t true w (by omega) hT)
  have HTA := Lib.hid (fun w hr hT => trAll_any f t A n c l HN.out w hr (by omega) (fun x hx => by obtain ⟨i, hi⟩ := List.getElem?_of_mem hx; have := HXS.out i x hi; omega) (by omega) (by omega) hT)
  have HTR := Lib.hid (fun (x : ByteArray) w (h : x.size ≤ 1000) hT => iTranslate x f t w (by omega) (by omega) (by omega) hT)
  go_enter Tryd.func7, Tryd.ntmps7
  go_wp2_with (go_at_call 22; (with_reducible refine (HZ.out).mono ?_); rintro e w ⟨rfl, rfl⟩; dsimp only)
  go_wp2_with (go_at_call 23; with_reducible refine (HAB.out _ hT).mono ?_)
  rintro e w1 ⟨⟨g1, cap1, rfl, hc1⟩, hb1⟩
  dsimp only
  go_wp2_with (go_at_call 11; (with_reducible refine (HF.out _).mono ?_); rintro e w4 ⟨rfl, rfl⟩; dsimp only)
  have hB4 := bthen hb1 ((Below.refl _ w1).alloc (Nat.le_refl _) (.cells #[.string f, .string t] 9))
  have hT4 := hT.below hB4
  have HR4 := HR.out.below hB4
  go_wp2_with (go_at_call 24; (with_reducible refine (HSA.out _ HR4).mono ?_); rintro e w4b ⟨rfl, rfl⟩; dsimp only)
  go_wp2_with (go_at_call 25; with_reducible refine (HP1.out _ hT4).mono ?_)
  rintro e w5 ⟨ha, hb5⟩
  have hB5 := bthen hB4 hb5
  rcases ha with ⟨⟨A1, n1, c1, b1, rfl⟩, _⟩ | ⟨L1, nt1, A1, cap1, rfl, _⟩
  · dsimp only
    go_wp2
    go_ret
    exact ⟨rfl, hB5.alloc hB5.size _⟩
  dsimp only
  obtain ⟨w6, hw6⟩ : ∃ w6, w5.alloc (.cells #[.slice A1 L1.length cap1, .bool nt1] 40) = w6 := ⟨_, rfl⟩
  have hB6 : Below w.heap.size w w6 := hw6 ▸ hB5.alloc hB5.size _
  have hT6 := hT.below hB6
  clear hB5 hb5
  go_wp2_with (go_at_call 25; with_reducible refine (HP2.out _ hT6).mono ?_)
  rintro e w7 ⟨ha, hb7⟩
  have hB7 := bthen hB6 hb7
  rcases ha with ⟨⟨A2, n2, c2, b2, rfl⟩, _⟩ | ⟨L2, nt2, A2, cap2, rfl, _⟩
  · dsimp only
    go_wp2
    go_ret
    exact ⟨rfl, hB7.alloc hB7.size _⟩
  dsimp only
  obtain ⟨w8, hw8⟩ : ∃ w8, w7.alloc (.cells #[.slice A2 L2.length cap2, .bool nt2] 40) = w8 := ⟨_, rfl⟩
  have hB8 : Below w.heap.size w w8 := hw8 ▸ hB7.alloc hB7.size _
  have hT8 := hT.below hB8
  clear hB7 hb7
  have HR8 := Lib.hid (HR.out.below hB8)
  go_wp2_with (go_at_call 23; with_reducible refine (HTA.out _ HR8.out hT8).mono ?_)
  rintro e w9 ⟨v, rfl, how, hb9⟩
  dsimp only
  have hB9 := Lib.hid (bthen hB8 hb9)
  have hT9 := hT.below hB9.out
  have HR9 := Lib.hid (HR8.out.below hb9)
  obtain ⟨A3, cap3, rfl⟩ := row_shapeA how
  rw [HN.out] at how ⊢
  have HOW := Lib.hid how
  clear how hb9 hB6 hB8 hw6 hw8 hT6 hT8 hT4 hB4 HR8
  go_wp2
  go_loopg [73] n (fun gh iv wr => ∃ k : Nat, iv = .int .i64 k ∧ k ≤ n ∧ gh = n - k ∧ Hid (Below w9.heap.size w9 wr))
  case atStart => exact ⟨0, rfl, by omega, by omega, Lib.hid (Below.refl _ _)⟩
  case round =>
    obtain ⟨k, rfl, hk, rfl, HBR⟩ := hrel
    by_cases hlt : k < n
    · have hltz : (k : Int) < (n : Int) := by omega
      obtain ⟨x, hx⟩ : ∃ x, l[k]? = some x := ⟨_, List.getElem?_eq_getElem (by rw [HN.out]; exact hlt)⟩
      obtain ⟨ad, rfl, hcell0⟩ := HR9.out k x hx
      have HC0 := Lib.hid hcell0
      have hcell := (HBR.out.cell (cell_lt hcell0)).trans hcell0
      clear hcell0
      have hTd : Tabs wr.drew := hT9.below HBR.out.drew
      have hxz := HXS.out k x hx
      have HVa := Lib.hid (fun w hT => valid_any x w (by omega) hT)
      obtain ⟨bv, hbv⟩ : ∃ bv, vld x = bv := ⟨_, rfl⟩
      rw [hbv] at HVa
      have HXK := Lib.hid hx
      clear hbv hx
      have hN : Nonempty (BW w9) := ⟨⟨w9, Below.refl _ _⟩⟩
      have hl9 : ∀ y : BW w9, y.val.cell? (ad.add k) = some (.string x) := fun y => (y.prop.cell (cell_lt HC0.out)).trans HC0.out
      have HQ1 : Hid (∀ y : BW w9, Calls Tryd.prog 19 #[.string x] y.val fun e w' => e = .returned (.bool bv) ∧ ∃ z : BW w9, w' = z.val) := Lib.hid (fun y => (HVa.out y.val (hT9.below y.prop)).mono fun e w' h => ⟨h.1, ⟨w', bthen y.prop h.2⟩, rfl⟩)
      cases bv with
      | false =>
        go_upto_region 20 with fail
        refine wp_region_quiet_c (C := fun w' => ∃ y : BW w9, w' = y.val) (by kernel_rfl) (by kernel_rfl) ⟨⟨_, HBR.out.drew⟩, rfl⟩ ?_
        repeat (go_big_quiet_step (first | exact HQ1.out _))
        refine wpQuiet_nil ?_
        rintro _ ⟨⟨V, hV⟩, rfl⟩
        have HBV := Lib.hid hV
        clear hV
        go_wp2
        go_roundg (n - (k + 1))
        case measure => omega
        case rel => exact ⟨k + 1, by go_num, by omega, rfl, HBV⟩
      | true =>
        by_cases hfe : f.size = 0
        · have hf9 : f.toList.isEmpty = true := by rw [ByteArray.toList_eq, List.eq_nil_of_length_eq_zero (show f.data.toList.length = 0 by rw [← Lib.size_eq]; exact hfe)]; rfl
          clear hfe
          go_upto_region 20 with fail
          refine wp_region_quiet_c (C := fun w' => ∃ y : BW w9, w' = y.val) (by kernel_rfl) (by kernel_rfl) ⟨⟨_, HBR.out.drew⟩, rfl⟩ ?_
          repeat (go_big_quiet_step (first | exact HQ1.out _))
          refine wpQuiet_nil ?_
          rintro _ ⟨⟨V, hV⟩, rfl⟩
          have HBV := Lib.hid hV
          clear hV
          go_wp2
          go_roundg (n - (k + 1))
          case measure => omega
          case rel => exact ⟨k + 1, by go_num, by omega, rfl, HBV⟩
        · have hf9 : f.toList.isEmpty = false := emp_ne hfe
          clear hfe
          by_cases hte : t.size = 0
          · have ht9 : t.toList.isEmpty = true := by rw [ByteArray.toList_eq, List.eq_nil_of_length_eq_zero (show t.data.toList.length = 0 by rw [← Lib.size_eq]; exact hte)]; rfl
            clear hte
            go_upto_region 20 with fail
            refine wp_region_quiet_c (C := fun w' => ∃ y : BW w9, w' = y.val) (by kernel_rfl) (by kernel_rfl) ⟨⟨_, HBR.out.drew⟩, rfl⟩ ?_
            repeat (go_big_quiet_step (first | exact HQ1.out _))
            refine wpQuiet_nil ?_
            rintro _ ⟨⟨V, hV⟩, rfl⟩
            have HBV := Lib.hid hV
            clear hV
            go_wp2
            go_roundg (n - (k + 1))
            case measure => omega
            case rel => exact ⟨k + 1, by go_num, by omega, rfl, HBV⟩
          · have ht9 : t.toList.isEmpty = false := emp_ne hte
            clear hte
            have h3 : (l.map fun x => Value.string (trS f t x))[k]? = some (.string (trS f t x)) := by rw [List.getElem?_map, HXK.out]; rfl
            obtain ⟨g3, rfl⟩ : ∃ g3, A3 = some ⟨g3, 0, none⟩ := by
              rcases HOW.out.2 with ⟨hv, h0⟩ | ⟨g, cap, cur, hv, _⟩
              · omega
              · injection hv with h1; exact ⟨g, h1⟩
            have hcellx0 : w9.cell? ⟨g3, k, none⟩ = some (.string (trS f t x)) := by rw [HOW.out.cellAt k (by omega), h3]
            have HCX := Lib.hid hcellx0
            have HTX := Lib.hid (fun w hT => HTR.out x w hxz hT)
            generalize trS f t x = Y at HCX HTX
            have hx9 : ∀ y : BW w9, y.val.cell? ⟨g3, k, none⟩ = some (.string Y) := fun y => (y.prop.cell (cell_lt HCX.out)).trans HCX.out
            have HQ2 : Hid (∀ y : BW w9, Calls Tryd.prog 18 #[.string x, .string f, .string t] y.val fun e w' => e = .returned (.string Y) ∧ ∃ z : BW w9, w' = z.val) := Lib.hid (fun y => (HTX.out y.val (hT9.below y.prop)).mono fun e w' h => ⟨h.1, ⟨w', bthen y.prop h.2⟩, rfl⟩)
            clear h3 hcellx0
            go_upto_region 20 with fail
            refine wp_region_quiet_c (C := fun w' => ∃ y : BW w9, w' = y.val) (by kernel_rfl) (by kernel_rfl) ⟨⟨_, HBR.out.drew⟩, rfl⟩ ?_
            repeat (go_big_quiet_step (first | exact HQ1.out _ | exact HQ2.out _))
            refine wpQuiet_nil ?_
            rintro _ ⟨⟨V, hV⟩, rfl⟩
            have HBV := Lib.hid hV
            clear hV
            go_wp2
            go_roundg (n - (k + 1))
            case measure => omega
            case rel => exact ⟨k + 1, by go_num, by omega, rfl, HBV⟩
    · have hltz : ¬ (k : Int) < (n : Int) := by omega
      go_wp2_with fail
      go_ret
      exact ⟨rfl, bthen hB9.out HBR.out⟩
end Go.Proofs.YtdgaehkfdaacjaaDoor
