/- The lexer's errorf: an item that tells an error; accept of ':' or '='. -/
import Derived.Test.YtackciefmdiphaaGreatDoorLexRun
set_option linter.unusedVariables false
namespace Go.Proofs.YtackciefmdiphaaGreatDoor
open Go.RowKit Plain

set_option maxHeartbeats 4000000 in
set_option maxRecDepth 100000 in
theorem errorY (B lb pos start : Nat) (s q : ByteArray) (rs : List Nat) (its : List LI) (w : World) (h : LY B lb s pos start rs its w) (hn : its.length ≤ 1000000) :
    Calls Tryz.prog 134 #[.pointer (some ⟨lb, 0, none⟩), .string q] w (YPost B lb s pos start rs (its ++ [⟨0, start, q⟩]) (.returned .nilFunc) w) := by
  unfold YPost
  have hB := h.lt
  obtain ⟨wd, h⟩ := h
  have hlt := h.lt
  obtain ⟨i0, hi, hz0, hz1, hz2⟩ := info_parts infoItem
  have HI := Lib.hid (And.intro hi (And.intro hz0 (And.intro hz1 hz2)))
  clear hi hz0 hz1 hz2
  obtain ⟨⟨st, lp, rv, iv, h1, h2, h3, h4⟩, h5⟩ := h
  obtain ⟨c0, c2, c3, c4, c6, c7, f1, f2, f3, f4, f6, f7⟩ := lx_cells h1
  have hne := row_ne h3 h1 (by decide)
  obtain ⟨N, hN⟩ : ∃ N, w.heap.size = N := ⟨_, rfl⟩
  have HC : Hid (∀ j u, (itemC ⟨0, start, q⟩)[j]? = some u → (w.alloc (.cells #[.int .i64 0, .int .i64 (start : Int), .string q] 121)).cell? ((⟨N, 0, none⟩ : Addr).add j) = some u) := Lib.hid (by have := cell_three_new w (.int .i64 0) (.int .i64 (start : Int)) (.string q) 121; rw [hN] at this; exact this)
  have HNN := Lib.hid hN
  have hlN : lb < N := hN ▸ hlt
  have k7 : ∀ o, (w.alloc o).cell? ⟨lb, 7, none⟩ = some iv := fun o => (((Below.refl w.heap.size w).alloc (Nat.le_refl _) o).cell hlt).trans c7
  have k3 : ∀ o, (w.alloc o).cell? ⟨lb, 3, none⟩ = some (.int .i64 (start : Int)) := fun o => (((Below.refl w.heap.size w).alloc (Nat.le_refl _) o).cell hlt).trans c3
  have H1 := Lib.hid h1
  have R1 := Lib.hid h2
  have R3 := Lib.hid h3
  have H4 := Lib.hid h4
  clear h1 h2 h3 h4
  go_enter Tryz.func134, Tryz.ntmps134
  go_wp2
  go_region_law (refine step_append_lies _ (by rfl) _ _ 114 (by rfl) B 121 i0 (.agg #[.int .i64 0, .int .i64 0, .string ⟨#[]⟩]) 3 32 Tryz.underlying114 HI.out.1 HI.out.2.1 HI.out.2.2.1 HI.out.2.2.2 rfl (by decide) iv its.length (itemsC its) (by rfl) (row_keep R3.out (fun g hg => by have := (row_lt R3.out hg).2; first | exact Below.heap_alloc w _ g this | rfl)) ⟨N, 0, none⟩ 1 1 (itemC ⟨0, start, q⟩) (by rfl) rfl (by exact HC.out) (by intro u hu; simp [itemC] at hu; rcases hu with rfl | rfl | rfl <;> rfl) (by decide) (by unfold maxLen; omega) (by omega) (by simp; omega) (N + 1) (by have := HNN.out; simp; omega) ?_; intro g2 cap w3 hown1 hgrow hat hlt2; obtain ⟨e0, e2, e3, e4, e6, e7, m1, m2, m3, m4, m6, m7⟩ := lx_cells ((hgrow.block lb (by simp; omega) (fun e => hne e.symm)).trans ((Below.heap_alloc w _ lb (by omega)).trans H1.out)))
  all_goals
    have hw3 : w3.heap[lb]? = _ := (hgrow.block lb (by simp; omega) (fun e => hne e.symm)).trans ((Below.heap_alloc w _ lb (by omega)).trans H1.out)
    have o2 := row_two (w := (w.alloc (.cells #[.int .i64 0, .int .i64 (start : Int), .string q] 121)).drew) (row_keep R3.out (fun g hg => Below.heap_alloc w (.cells #[.int .i64 0, .int .i64 (start : Int), .string q] 121) g (row_lt R3.out hg).2)) (row_keep R1.out (fun g hg => Below.heap_alloc w (.cells #[.int .i64 0, .int .i64 (start : Int), .string q] 121) g (row_lt R1.out hg).2)) (by decide) hgrow
    have b3 : Below B w w3 := (((Below.refl B w).alloc (by omega) (.cells #[.int .i64 0, .int .i64 (start : Int), .string q] 121)).drew).grown hgrow (by simp; omega) (fun g hg => (row_lt R3.out hg).1)
    have hA := lx_set hw3 7 (.slice (some ⟨g2, 0, none⟩) (its.length + 1) cap)
    have oA := row_set (k := lb) (i := 7) (u := .slice (some ⟨g2, 0, none⟩) (its.length + 1) cap) hown1 hw3 (by decide)
    have oB := row_set (k := lb) (i := 7) (u := .slice (some ⟨g2, 0, none⟩) (its.length + 1) cap) o2 hw3 (by decide)
    have bA : Below B w (w3.setCell ⟨lb, 7, none⟩ (.slice (some ⟨g2, 0, none⟩) (its.length + 1) cap)) := b3.setCell (p := ⟨lb, 7, none⟩) h5 _
    clear e0 e2 e3 e4 e6 e7 m1 m2 m3 m4 m6 m7 hown1 hgrow hat hw3 o2 b3 c0 c2 c3 c4 c6 c7 f1 f2 f3 f4 f6 f7
    generalize w3.setCell ⟨lb, 7, none⟩ (.slice (some ⟨g2, 0, none⟩) (its.length + 1) cap) = wA at hA oA oB bA ⊢
    have HA := Lib.hid hA
    have OA := Lib.hid oA
    have OB := Lib.hid oB
    have BA := Lib.hid bA
    clear hA oA oB bA
    go_wp2
    go_ret
    refine ⟨rfl, ⟨wd, ⟨st, lp, _, _, HA.out, OB.out, ?_, H4.out⟩, h5⟩, BA.out⟩
    have := OA.out
    rw [itemsC_snoc]
    simpa using this
def APost (B lb : Nat) (s : ByteArray) (pos start : Nat) (rs : List Nat) (its : List LI) (w : World) (e : Ending) (w' : World) : Prop := ∃ b : Bool, e = .returned (.bool b) ∧ LY B lb s pos start rs its w' ∧ Below B w w'
set_option maxHeartbeats 4000000 in
set_option maxRecDepth 100000 in
theorem acc_any (B lb pos start P : Nat) (s : ByteArray) (rs : List Nat) (its : List LI) (w : World) (h : LY B lb s pos start rs its w) (hs : s.size ≤ 2147483647) (hp2 : pos ≤ s.size) (hT : TabsL B w) (hP : accS s pos = P) :
    Calls Tryz.prog 155 #[.pointer (some ⟨lb, 0, none⟩), .string ⟨#[58, 61]⟩] w (APost B lb s P start rs its w) := by
  unfold APost
  by_cases hlt : pos < s.size
  · obtain ⟨R, hR⟩ : ∃ R, rAt s pos = R := ⟨_, rfl⟩
    obtain ⟨K, hK⟩ : ∃ K, kAt s pos = K := ⟨_, rfl⟩
    have hok := rAt_ok s pos
    have hk := kAt_pos s pos hlt
    have hst := hP
    rw [accS, if_pos hlt, hR, hK] at hst
    rw [hR] at hok
    rw [hK] at hk
    have HN := Lib.hid (nextY_at B lb pos start s rs its _ h hs hlt hT R K hR hK)
    cases hw : sepR R with
    | true =>
      have hw2 : R = 58 ∨ R = 61 := by simpa [sepR] using hw
      rw [if_pos hw2] at hst
      subst hst
      have HZ := Lib.hid (fun w => z_sep R w hok true hw)
      clear hw2 hok hR hK hw hT h hP
      go_enter Tryz.func155, Tryz.ntmps155
      go_wp2_with (go_at_call 114; (with_reducible refine HN.out.mono ?_); rintro e w1 ⟨rfl, hx, hb1⟩; dsimp only)
      have HX := Lib.hid hx
      have HB1 := Lib.hid hb1
      clear hx hb1
      go_wp2_with (go_at_call 126; (with_reducible refine (HZ.out _).mono ?_); rintro e w2 ⟨rfl, hb2⟩; dsimp only)
      have HB2 : Hid (Below B w w2) := Lib.hid (HB1.out.trans (hb2.mono (Nat.le_trans HX.out.lo (Nat.le_of_lt HX.out.lt))))
      have HY2 : Hid (LY B lb s (pos + K) start rs its w2) := Lib.hid ⟨K, HX.out.below hb2⟩
      clear hb2
      go_wp2
      go_ret
      exact ⟨true, rfl, HY2.out, HB2.out⟩
    | false =>
      have hw2 : ¬ (R = 58 ∨ R = 61) := by simpa [sepR] using hw
      rw [if_neg hw2] at hst
      subst hst
      have HZ := Lib.hid (fun w => z_sep R w hok false hw)
      have HBK := Lib.hid (fun w' (h : LX B lb s (pos + K) start K rs its w') => backupY B lb pos K start s rs its w' h (by omega))
      clear hw2 hok hR hK hw hT h hP
      go_enter Tryz.func155, Tryz.ntmps155
      go_wp2_with (go_at_call 114; (with_reducible refine HN.out.mono ?_); rintro e w1 ⟨rfl, hx, hb1⟩; dsimp only)
      have HX := Lib.hid hx
      have HB1 := Lib.hid hb1
      clear hx hb1
      go_wp2_with (go_at_call 126; (with_reducible refine (HZ.out _).mono ?_); rintro e w2 ⟨rfl, hb2⟩; dsimp only)
      have HB2 : Hid (Below B w w2) := Lib.hid (HB1.out.trans (hb2.mono (Nat.le_trans HX.out.lo (Nat.le_of_lt HX.out.lt))))
      have HX2 := Lib.hid (HX.out.below hb2)
      clear hb2
      go_wp2_with (go_at_call 122; (with_reducible refine (HBK.out _ HX2.out).mono ?_); rintro e w3 ⟨rfl, hy, hb3⟩; dsimp only)
      have HY := Lib.hid hy
      have HB3 := Lib.hid (HB2.out.trans hb3)
      clear hy hb3
      go_wp2
      go_ret
      exact ⟨false, rfl, HY.out, HB3.out⟩
  · have hst := hP
    rw [accS, if_neg hlt] at hst
    subst hst
    have HN := Lib.hid (nextY_end B lb pos start s rs its _ h hs hlt hp2)
    have HBK := Lib.hid (fun w' (h : LX B lb s (pos + 0) start 0 rs its w') => backupY B lb pos 0 start s rs its w' h (by omega))
    have HZ := Lib.hid (fun w => zc_eof ⟨#[58, 61]⟩ w)
    clear hT h hP
    go_enter Tryz.func155, Tryz.ntmps155
    go_wp2_with (go_at_call 114; (with_reducible refine HN.out.mono ?_); rintro e w1 ⟨rfl, hx, hb1⟩; dsimp only)
    have HX := Lib.hid hx
    have HB1 := Lib.hid hb1
    clear hx hb1
    go_wp2_with (go_at_call 126; (with_reducible refine (HZ.out _).mono ?_); rintro e w2 ⟨rfl, rfl⟩; dsimp only)
    go_wp2_with (go_at_call 122; (with_reducible refine (HBK.out _ HX.out).mono ?_); rintro e w3 ⟨rfl, hy, hb3⟩; dsimp only)
    have HY := Lib.hid hy
    have HB3 := Lib.hid (HB1.out.trans hb3)
    clear hy hb3
    go_wp2
    go_ret
    exact ⟨false, rfl, HY.out, HB3.out⟩
end Go.Proofs.YtackciefmdiphaaGreatDoor
