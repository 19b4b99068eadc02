/- The walk of the law FnPropsSeparator. -/
import Derived.Test.YtcbfoieamcckoaaDoorQWp
import Derived.Test.YtcbfoieamcckoaaDoorQSimp
set_option linter.unusedVariables false
namespace Go.Proofs.YtcbfoieamcckoaaDoor
open Go.RowKit Plain

theorem aln_nice {s : ByteArray} (h : simB s = true) : NiceL s.data.toList := by
  intro c hc
  have h1 := (simB_bare h).2 c hc
  have := byte_all (p := fun c => !(alnB c) || (decide (48 ≤ c.toNat) && decide (c.toNat < 128) && !(c.toNat == 58) && !(c.toNat == 61) && !(c.toNat == 92))) (by decide +kernel) c
  rw [h1] at this
  simpa [NiceR, and_assoc] using this
theorem simB_ne {s : ByteArray} (h : simB s = true) : ¬ s.size = 0 := by
  intro e
  have := (simB_bare h).1
  rw [Lib.size_eq] at e
  exact this (List.eq_nil_of_length_eq_zero e)
/-- impl.WriteProps of a pair that was just laid -/
theorem wp_new (k v sep S : ByteArray) (w : World) (n : Nat) (hn : n = w.heap.size) (hT : Tabs w) (hk : simB k = true) (hv : simB v = true) (hks : k.size ≤ 1000000) (hvs : v.size ≤ 1000000) (hS : S.size ≤ 10) (hsep : sep.size ≤ 10) (hc : (sep = ⟨#[]⟩ ∧ S = ⟨#[32, 61, 32]⟩) ∨ (¬ sep.size = 0 ∧ S = sep)) :
    Calls Tryd.prog 5 #[.slice (some ⟨n, 0, none⟩) 1 1, .string ⟨#[]⟩, .string sep, .int .i64 1] (w.alloc (.cells #[.string k, .string v, .string ⟨#[]⟩, .slice none 0 0] 26))
      fun e w' => e = .returned (.tuple #[.string (k ++ S ++ v ++ ⟨#[10]⟩), .int .i64 (k ++ S ++ v ++ ⟨#[10]⟩ : ByteArray).size]) ∧ Below w.heap.size w w' := by
  subst hn
  have hb : Below w.heap.size w (w.alloc (.cells #[.string k, .string v, .string ⟨#[]⟩, .slice none 0 0] 26)) := (Below.refl _ w).alloc (Nat.le_refl _) _
  refine (wprops_any w.heap.size k v sep S _ (heap_alloc_new w _) (simB_ne hk) hks hvs hS hsep (aln_nice hk) (aln_nice hv) (hT.below hb) hc).mono ?_
  rintro e w' ⟨rfl, hb'⟩
  exact ⟨rfl, bthen hb hb'⟩
theorem ab_c (w : World) (hT : Tabs w) : Calls Tryd.prog 5 #[.slice (some ⟨w.heap.size, 0, none⟩) 1 1, .string ⟨#[]⟩, .string ⟨#[58]⟩, .int .i64 1] (w.alloc (.cells #[.string ⟨#[97]⟩, .string ⟨#[98]⟩, .string ⟨#[]⟩, .slice none 0 0] 26))
      fun e w' => e = .returned (.tuple #[.string ⟨#[97, 58, 98, 10]⟩, .int .i64 4]) ∧ Below w.heap.size w w' := by
  have := wp_new ⟨#[97]⟩ ⟨#[98]⟩ ⟨#[58]⟩ ⟨#[58]⟩ w _ rfl hT (by decide +kernel) (by decide +kernel) (by decide) (by decide) (by decide) (by decide) (.inr ⟨by decide, rfl⟩)
  rwa [show (⟨#[97]⟩ ++ ⟨#[58]⟩ ++ ⟨#[98]⟩ ++ ⟨#[10]⟩ : ByteArray) = ⟨#[97, 58, 98, 10]⟩ by decide +kernel] at this
theorem u8_bd {x : Int} (h : (Lit.int .u8 x).wf = true) : 0 ≤ x ∧ x ≤ 255 := by simpa [Lit.wf, IntKind.min, IntKind.max, IntKind.signed, IntKind.bits] using h

set_option maxHeartbeats 8000000 in
set_option maxRecDepth 100000 in
theorem fnPropsSeparator_walk (a b : ByteArray) (ci : Int) (w : World) (ha0 : a.size ≤ 140737488351232) (hb0 : b.size ≤ 140737488351232) (h3 : (Lit.int .u8 ci).wf = true) (hT : Tabs w) :
    Calls Tryd.prog 3 #[.string a, .string b, .int .u8 ci] w fun e w' => e = .returned (.bool true) ∧ Below w.heap.size w w' := by
  obtain ⟨c0, c1⟩ := u8_bd h3
  obtain ⟨c, rfl⟩ : ∃ c : Nat, ci = (c : Int) := ⟨ci.toNat, by omega⟩
  clear h3 c0 c1
  by_cases ha : 2147483647 < a.size
  · have hza : (2147483647 : Int) < (a.size : Int) := by omega
    go_enter Tryd.func3, Tryd.ntmps3
    go_wp2
    go_ret
    exact ⟨rfl, Below.refl _ _⟩
  have hza : ¬ (2147483647 : Int) < (a.size : Int) := by omega
  by_cases hb : 2147483647 < b.size
  · have hzb : (2147483647 : Int) < (b.size : Int) := by omega
    go_enter Tryd.func3, Tryd.ntmps3
    go_wp2
    go_ret
    exact ⟨rfl, Below.refl _ _⟩
  have hzb : ¬ (2147483647 : Int) < (b.size : Int) := by omega
  have HSa := Lib.hid (fun w => simple_any a w (by omega))
  have HSb := Lib.hid (fun w => simple_any b w (by omega))
  obtain ⟨bf, hbf⟩ : ∃ bf, decide (2 + sumSz [a, b] ≤ 400) = bf := ⟨_, rfl⟩
  have HF : Hid (∀ w : World, Calls Tryd.prog 7 #[.slice (some ⟨w.heap.size, 0, none⟩) 2 2] (w.alloc (.cells #[.string a, .string b] 9)) fun e w' => e = .returned (.bool bf) ∧ w.alloc (.cells #[.string a, .string b] 9) = w') :=
    Lib.hid (fun w => few_row [a, b] 2 rfl w (by omega) (by simp only [sumSz, List.map_cons, List.map_nil, List.sum_cons, List.sum_nil]; omega) bf hbf)
  cases hva : simB a with
  | false =>
    rw [hva] at HSa
    clear hva hbf
    go_enter Tryd.func3, Tryd.ntmps3
    go_wp2_with (go_at_call 5; (with_reducible refine (ab_c _ hT).mono ?_); rintro e w1 ⟨rfl, hb1⟩; dsimp only)
    go_wp2_with (go_at_call 6; (with_reducible refine (HSa.out _).mono ?_); rintro e w2 ⟨rfl, rfl⟩; dsimp only)
    go_ret
    exact ⟨rfl, hb1⟩
  | true =>
    rw [hva] at HSa
    have HVA := Lib.hid hva
    clear hva
    cases hvb : simB b with
    | false =>
      rw [hvb] at HSb
      clear hvb hbf
      go_enter Tryd.func3, Tryd.ntmps3
      go_wp2_with (go_at_call 5; (with_reducible refine (ab_c _ hT).mono ?_); rintro e w1 ⟨rfl, hb1⟩; dsimp only)
      go_wp2_with (go_at_call 6; (with_reducible refine (HSa.out _).mono ?_); rintro e w2 ⟨rfl, rfl⟩; dsimp only)
      go_wp2_with (go_at_call 6; (with_reducible refine (HSb.out _).mono ?_); rintro e w3 ⟨rfl, rfl⟩; dsimp only)
      go_ret
      exact ⟨rfl, hb1⟩
    | true =>
      rw [hvb] at HSb
      have HVB := Lib.hid hvb
      clear hvb
      cases bf with
      | false =>
        clear hbf
        go_enter Tryd.func3, Tryd.ntmps3
        go_wp2_with (go_at_call 5; (with_reducible refine (ab_c _ hT).mono ?_); rintro e w1 ⟨rfl, hb1⟩; dsimp only)
        go_wp2_with (go_at_call 6; (with_reducible refine (HSa.out _).mono ?_); rintro e w2 ⟨rfl, rfl⟩; dsimp only)
        go_wp2_with (go_at_call 6; (with_reducible refine (HSb.out _).mono ?_); rintro e w3 ⟨rfl, rfl⟩; dsimp only)
        go_wp2_with (go_at_call 7; (with_reducible refine (HF.out _).mono ?_); rintro e w4 ⟨rfl, rfl⟩; dsimp only)
        go_ret
        exact ⟨rfl, hb1.alloc hb1.size _⟩
      | true =>
        have hfw : a.size + b.size ≤ 400 := by
          have := of_decide_eq_true hbf
          simp only [sumSz, List.map_cons, List.map_nil, List.sum_cons, List.sum_nil] at this
          omega
        clear hbf ha hb ha0 hb0
        obtain ⟨r, hr⟩ : ∃ r, c % 6 = r := ⟨_, rfl⟩
        have hr6 : r < 6 := by rw [← hr]; exact Nat.mod_lt _ (by decide)
        have hrem : Int.tmod (c : Int) 6 = (r : Int) := by rw [← hr]; rfl
        have HW := Lib.hid (fun (sep S : ByteArray) (w : World) (n : Nat) (hn : n = w.heap.size) (hT : Tabs w) h1 h2 h3 => wp_new a b sep S w n hn hT HVA.out HVB.out (by omega) (by omega) h1 h2 h3)
        have hcase : r = 0 ∨ r = 1 ∨ r = 2 ∨ r = 3 ∨ r = 4 ∨ r = 5 := by omega
        clear hr hr6
        rcases hcase with rfl | rfl | rfl | rfl | rfl | rfl
        · have hrem0 : Int.tmod (c : Int) 6 = 0 := hrem
          clear hrem
          go_enter Tryd.func3, Tryd.ntmps3
          go_wp2_with (go_at_call 5; (with_reducible refine (ab_c _ hT).mono ?_); rintro e w1 ⟨rfl, hb1⟩; dsimp only)
          go_wp2_with (go_at_call 6; (with_reducible refine (HSa.out _).mono ?_); rintro e w2 ⟨rfl, rfl⟩; dsimp only)
          go_wp2_with (go_at_call 6; (with_reducible refine (HSb.out _).mono ?_); rintro e w3 ⟨rfl, rfl⟩; dsimp only)
          go_wp2_with (go_at_call 7; (with_reducible refine (HF.out _).mono ?_); rintro e w4 ⟨rfl, rfl⟩; dsimp only)
          have hB4 : Hid (Below w.heap.size w ((w3.alloc (.cells #[.string a, .string b] 9)).alloc (.cells #[.string ⟨#[]⟩, .string ⟨#[61]⟩, .string ⟨#[58]⟩, .string ⟨#[32, 58, 32]⟩, .string ⟨#[32]⟩, .string ⟨#[9, 61, 9]⟩] 9))) := Lib.hid ((hb1.alloc hb1.size _).alloc (by have := hb1.size; simp; omega) _)
          go_wp2_with (go_at_call 5; (with_reducible refine (HW.out ⟨#[]⟩ ⟨#[32, 61, 32]⟩ _ (w3.heap.size + 1 + 1) (by simp) (hT.below hB4.out) (by decide) (by decide) (.inl ⟨rfl, rfl⟩)).mono ?_); rintro e w5 ⟨rfl, hb5⟩; dsimp only)
          go_wp2
          go_ret
          exact ⟨rfl, bthen hB4.out hb5⟩
        · have hrem1 : Int.tmod (c : Int) 6 = 1 := hrem
          clear hrem
          go_enter Tryd.func3, Tryd.ntmps3
          go_wp2_with (go_at_call 5; (with_reducible refine (ab_c _ hT).mono ?_); rintro e w1 ⟨rfl, hb1⟩; dsimp only)
          go_wp2_with (go_at_call 6; (with_reducible refine (HSa.out _).mono ?_); rintro e w2 ⟨rfl, rfl⟩; dsimp only)
          go_wp2_with (go_at_call 6; (with_reducible refine (HSb.out _).mono ?_); rintro e w3 ⟨rfl, rfl⟩; dsimp only)
          go_wp2_with (go_at_call 7; (with_reducible refine (HF.out _).mono ?_); rintro e w4 ⟨rfl, rfl⟩; dsimp only)
          have hB4 : Hid (Below w.heap.size w ((w3.alloc (.cells #[.string a, .string b] 9)).alloc (.cells #[.string ⟨#[]⟩, .string ⟨#[61]⟩, .string ⟨#[58]⟩, .string ⟨#[32, 58, 32]⟩, .string ⟨#[32]⟩, .string ⟨#[9, 61, 9]⟩] 9))) := Lib.hid ((hb1.alloc hb1.size _).alloc (by have := hb1.size; simp; omega) _)
          go_wp2_with (go_at_call 5; (with_reducible refine (HW.out ⟨#[61]⟩ ⟨#[61]⟩ _ (w3.heap.size + 1 + 1) (by simp) (hT.below hB4.out) (by decide) (by decide) (.inr ⟨by decide, rfl⟩)).mono ?_); rintro e w5 ⟨rfl, hb5⟩; dsimp only)
          go_wp2
          go_ret
          exact ⟨rfl, bthen hB4.out hb5⟩
        · have hrem2 : Int.tmod (c : Int) 6 = 2 := hrem
          clear hrem
          go_enter Tryd.func3, Tryd.ntmps3
          go_wp2_with (go_at_call 5; (with_reducible refine (ab_c _ hT).mono ?_); rintro e w1 ⟨rfl, hb1⟩; dsimp only)
          go_wp2_with (go_at_call 6; (with_reducible refine (HSa.out _).mono ?_); rintro e w2 ⟨rfl, rfl⟩; dsimp only)
          go_wp2_with (go_at_call 6; (with_reducible refine (HSb.out _).mono ?_); rintro e w3 ⟨rfl, rfl⟩; dsimp only)
          go_wp2_with (go_at_call 7; (with_reducible refine (HF.out _).mono ?_); rintro e w4 ⟨rfl, rfl⟩; dsimp only)
          have hB4 : Hid (Below w.heap.size w ((w3.alloc (.cells #[.string a, .string b] 9)).alloc (.cells #[.string ⟨#[]⟩, .string ⟨#[61]⟩, .string ⟨#[58]⟩, .string ⟨#[32, 58, 32]⟩, .string ⟨#[32]⟩, .string ⟨#[9, 61, 9]⟩] 9))) := Lib.hid ((hb1.alloc hb1.size _).alloc (by have := hb1.size; simp; omega) _)
          go_wp2_with (go_at_call 5; (with_reducible refine (HW.out ⟨#[58]⟩ ⟨#[58]⟩ _ (w3.heap.size + 1 + 1) (by simp) (hT.below hB4.out) (by decide) (by decide) (.inr ⟨by decide, rfl⟩)).mono ?_); rintro e w5 ⟨rfl, hb5⟩; dsimp only)
          go_wp2
          go_ret
          exact ⟨rfl, bthen hB4.out hb5⟩
        · have hrem3 : Int.tmod (c : Int) 6 = 3 := hrem
          clear hrem
          go_enter Tryd.func3, Tryd.ntmps3
          go_wp2_with (go_at_call 5; (with_reducible refine (ab_c _ hT).mono ?_); rintro e w1 ⟨rfl, hb1⟩; dsimp only)
          go_wp2_with (go_at_call 6; (with_reducible refine (HSa.out _).mono ?_); rintro e w2 ⟨rfl, rfl⟩; dsimp only)
          go_wp2_with (go_at_call 6; (with_reducible refine (HSb.out _).mono ?_); rintro e w3 ⟨rfl, rfl⟩; dsimp only)
          go_wp2_with (go_at_call 7; (with_reducible refine (HF.out _).mono ?_); rintro e w4 ⟨rfl, rfl⟩; dsimp only)
          have hB4 : Hid (Below w.heap.size w ((w3.alloc (.cells #[.string a, .string b] 9)).alloc (.cells #[.string ⟨#[]⟩, .string ⟨#[61]⟩, .string ⟨#[58]⟩, .string ⟨#[32, 58, 32]⟩, .string ⟨#[32]⟩, .string ⟨#[9, 61, 9]⟩] 9))) := Lib.hid ((hb1.alloc hb1.size _).alloc (by have := hb1.size; simp; omega) _)
          go_wp2_with (go_at_call 5; (with_reducible refine (HW.out ⟨#[32, 58, 32]⟩ ⟨#[32, 58, 32]⟩ _ (w3.heap.size + 1 + 1) (by simp) (hT.below hB4.out) (by decide) (by decide) (.inr ⟨by decide, rfl⟩)).mono ?_); rintro e w5 ⟨rfl, hb5⟩; dsimp only)
          go_wp2
          go_ret
          exact ⟨rfl, bthen hB4.out hb5⟩
        · have hrem4 : Int.tmod (c : Int) 6 = 4 := hrem
          clear hrem
          go_enter Tryd.func3, Tryd.ntmps3
          go_wp2_with (go_at_call 5; (with_reducible refine (ab_c _ hT).mono ?_); rintro e w1 ⟨rfl, hb1⟩; dsimp only)
          go_wp2_with (go_at_call 6; (with_reducible refine (HSa.out _).mono ?_); rintro e w2 ⟨rfl, rfl⟩; dsimp only)
          go_wp2_with (go_at_call 6; (with_reducible refine (HSb.out _).mono ?_); rintro e w3 ⟨rfl, rfl⟩; dsimp only)
          go_wp2_with (go_at_call 7; (with_reducible refine (HF.out _).mono ?_); rintro e w4 ⟨rfl, rfl⟩; dsimp only)
          have hB4 : Hid (Below w.heap.size w ((w3.alloc (.cells #[.string a, .string b] 9)).alloc (.cells #[.string ⟨#[]⟩, .string ⟨#[61]⟩, .string ⟨#[58]⟩, .string ⟨#[32, 58, 32]⟩, .string ⟨#[32]⟩, .string ⟨#[9, 61, 9]⟩] 9))) := Lib.hid ((hb1.alloc hb1.size _).alloc (by have := hb1.size; simp; omega) _)
          go_wp2_with (go_at_call 5; (with_reducible refine (HW.out ⟨#[32]⟩ ⟨#[32]⟩ _ (w3.heap.size + 1 + 1) (by simp) (hT.below hB4.out) (by decide) (by decide) (.inr ⟨by decide, rfl⟩)).mono ?_); rintro e w5 ⟨rfl, hb5⟩; dsimp only)
          go_wp2
          go_ret
          exact ⟨rfl, bthen hB4.out hb5⟩
        · have hrem5 : Int.tmod (c : Int) 6 = 5 := hrem
          clear hrem
          go_enter Tryd.func3, Tryd.ntmps3
          go_wp2_with (go_at_call 5; (with_reducible refine (ab_c _ hT).mono ?_); rintro e w1 ⟨rfl, hb1⟩; dsimp only)
          go_wp2_with (go_at_call 6; (with_reducible refine (HSa.out _).mono ?_); rintro e w2 ⟨rfl, rfl⟩; dsimp only)
          go_wp2_with (go_at_call 6; (with_reducible refine (HSb.out _).mono ?_); rintro e w3 ⟨rfl, rfl⟩; dsimp only)
          go_wp2_with (go_at_call 7; (with_reducible refine (HF.out _).mono ?_); rintro e w4 ⟨rfl, rfl⟩; dsimp only)
          have hB4 : Hid (Below w.heap.size w ((w3.alloc (.cells #[.string a, .string b] 9)).alloc (.cells #[.string ⟨#[]⟩, .string ⟨#[61]⟩, .string ⟨#[58]⟩, .string ⟨#[32, 58, 32]⟩, .string ⟨#[32]⟩, .string ⟨#[9, 61, 9]⟩] 9))) := Lib.hid ((hb1.alloc hb1.size _).alloc (by have := hb1.size; simp; omega) _)
          go_wp2_with (go_at_call 5; (with_reducible refine (HW.out ⟨#[9, 61, 9]⟩ ⟨#[9, 61, 9]⟩ _ (w3.heap.size + 1 + 1) (by simp) (hT.below hB4.out) (by decide) (by decide) (.inr ⟨by decide, rfl⟩)).mono ?_); rintro e w5 ⟨rfl, hb5⟩; dsimp only)
          go_wp2
          go_ret
          exact ⟨rfl, bthen hB4.out hb5⟩
end Go.Proofs.YtcbfoieamcckoaaDoor
