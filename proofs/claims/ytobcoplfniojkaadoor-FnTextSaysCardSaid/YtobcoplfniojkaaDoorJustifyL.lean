/- The walks of xstrings.LeftJustify, Center. -/
import Derived.Test.YtobcoplfniojkaaDoorJustify
namespace Go.Proofs.YtobcoplfniojkaaDoor
open Go.RowKit Plain

set_option maxHeartbeats 2000000 in
set_option maxRecDepth 100000 in
theorem left_any (s : ByteArray) (n : Int) (p : ByteArray) (w : World) (hs : s.size ≤ 2147483647) (hps : p.size ≤ 2147483647) (hn : n ≤ 16384) (hn0 : -9223372036854775808 ≤ n) (hT : Tabs w) :
    Calls Tryd.prog 47 #[.string s, .int .i64 n, .string p] w fun e w' => e = .returned (.string ⟨(leftB s.data.toList p.data.toList n).toArray⟩) ∧ Below w.heap.size w w' := by
  have cS := fun w => xlen_any s w (by omega)
  have cP := fun w => xlen_any p w (by omega)
  have hle := segs_le s
  obtain ⟨m, hm⟩ : ∃ m, (segs s.data.toList).length = m := ⟨_, rfl⟩
  by_cases hc : n ≤ m
  · have hz : n ≤ (m : Int) := hc
    have hr : leftB s.data.toList p.data.toList n = s.data.toList := by unfold leftB; rw [if_pos (.inl (by rw [hm]; exact hc))]
    rw [hr]
    rw [hm] at cS
    have HS := Lib.hid cS
    clear cS cP hr hm hc
    go_enter Tryd.func47, Tryd.ntmps47
    go_wp2_with (go_at_call 39; (with_reducible refine (HS.out _).mono ?_); rintro e w1 ⟨rfl, hb1⟩)
    go_ret
    exact ⟨rfl, hb1⟩
  · have hz : ¬ n ≤ (m : Int) := hc
    rw [hm] at cS hle
    by_cases hp0 : p.size = 0
    · obtain rfl : p = ⟨#[]⟩ := ByteArray.ext (Array.eq_empty_of_size_eq_zero hp0)
      have hr : leftB s.data.toList (⟨#[]⟩ : ByteArray).data.toList n = s.data.toList := by unfold leftB; rw [if_pos (.inr rfl)]
      rw [hr]
      have HS := Lib.hid cS
      clear cS cP hr hm hc
      go_enter Tryd.func47, Tryd.ntmps47
      go_wp2_with (go_at_call 39; (with_reducible refine (HS.out _).mono ?_); rintro e w1 ⟨rfl, hb1⟩)
      go_ret
      exact ⟨rfl, hb1⟩
    · have hp : 0 < p.size := by omega
      obtain ⟨k, hk⟩ : ∃ k : Nat, n - (m : Int) = (k : Int) := ⟨(n - m).toNat, by omega⟩
      have hk1 : 0 < k := by omega
      have hk2 : k ≤ 16384 := by omega
      have hN := segs_pos hp
      have hN2 : (segs p.data.toList).length ≤ 2147483647 := Nat.le_trans (segs_le p) hps
      have hp' : p.data.toList ≠ [] := ne_of_pos hp
      have hr : leftB s.data.toList p.data.toList n = s.data.toList ++ padOf (segs p.data.toList) k := by
        unfold leftB lack
        rw [hm, if_neg (by rintro (h | h); exact hc h; exact hp' h), hk]
        rfl
      rw [hr]
      have hpl := padOf_length (segs p.data.toList) k
      rw [segs_flatten, ← Lib.size_eq] at hpl
      have hro := room (N := (segs p.data.toList).length) hs hps hk2
      have cW := fun (b : Nat) (l : List UInt8) (w : World) (h : IsB b l w) (hT : TabsB b w) (hl : l.length ≤ 70368744177664) => writePad_any b l p k w h hT hp hps (by omega) (by omega)
      obtain ⟨PD, hPD⟩ : ∃ PD, padOf (segs p.data.toList) k = PD := ⟨_, rfl⟩
      rw [hPD] at hpl cW
      rw [hPD]
      obtain ⟨N, hNN⟩ : ∃ N, (segs p.data.toList).length = N := ⟨_, rfl⟩
      rw [hNN] at hN hN2 hpl hro cP cW
      obtain ⟨q, hq⟩ : ∃ q, k / N = q := ⟨_, rfl⟩
      rw [hq] at hpl hro
      have hq1 : q ≤ 16384 := by rw [← hq]; exact Nat.le_trans (Nat.div_le_self _ _) hk2
      have hquo : Int.tdiv (k : Int) (N : Int) = (q : Int) := by rw [← hq]; rfl
      obtain ⟨M, hM⟩ : ∃ M, (q + 1) * p.size = M := ⟨_, rfl⟩
      rw [hM] at hpl hro
      have hmul : ((q : Int) + 1) * (p.size : Int) = (M : Int) := by rw [← hM]; simp
      have HS := Lib.hid cS
      have HP := Lib.hid cP
      have HW := Lib.hid cW
      have HR := Lib.hid hpl
      have hM1 : M ≤ 35190000000000 := hro.2
      have hM2 : s.size + M ≤ 35190000000000 := hro.1
      have hpe := ne_empty hp'
      clear cS cP cW hr hm hc hpl hro hq hM hNN hPD hp'
      go_enter Tryd.func47, Tryd.ntmps47
      go_wp2_with (go_at_call 39; (with_reducible refine (HS.out _).mono ?_); rintro e w1 ⟨rfl, hb1⟩)
      go_wp2_with (go_at_call 39; (with_reducible refine (HP.out _).mono ?_); rintro e w2 ⟨rfl, hb2⟩)
      have hB1 := bthen hb1 hb2
      have e1 : (s.size : Int) + (M : Int) = ((s.size + M : Nat) : Int) := by simp
      have HG := Lib.hid (fun (w : World) => grow_any w2.heap.size (s.size + M) (w2.alloc (.cells #[.pointer none, .slice none 0 0] 67)) (fresh_any w2) (by omega))
      rw [← e1] at HG
      go_wp2_with (go_at_call 59; (with_reducible refine (HG.out w).mono ?_))
      rintro e w3 ⟨rfl, hk3, hb3⟩
      dsimp only
      have hB3 : Below w2.heap.size w2 w3 := ((Below.refl _ w2).alloc (Nat.le_refl _) _).trans hb3
      have hT2 := tabsB_of ((hT.below hB1)) hB3
      have hl4 : ([] : List UInt8).length + s.size ≤ 140737488355328 := by simp; omega
      go_wp2_with (go_at_call 61; (with_reducible refine (writeString_any _ _ s _ hk3 hl4).mono ?_))
      rintro e w5 ⟨rfl, hk5, hb5, -⟩
      dsimp only
      rw [List.nil_append] at hk5
      have hl5 : s.data.toList.length ≤ 70368744177664 := by rw [← Lib.size_eq]; omega
      go_wp2_with (go_at_call 60; (with_reducible refine (HW.out _ _ _ hk5 (hT2.below hb5) hl5).mono ?_))
      rintro e w4 ⟨rfl, hk4, hb4⟩
      dsimp only
      go_wp2_with (go_at_call 62; (with_reducible refine (string_any _ _ _ hk4).mono ?_))
      rintro e w6 ⟨rfl, -, hb6, -⟩
      dsimp only
      go_wp2
      go_ret
      exact ⟨rfl, bthen hB1 (hB3.trans (hb5.trans (hb4.trans hb6)))⟩
set_option maxRecDepth 100000 in
theorem implLeftJustify_any (s : ByteArray) (n : Int) (p : ByteArray) (w : World) (hs : s.size ≤ 2147483647) (hps : p.size ≤ 2147483647) (hn : n ≤ 16384) (hn0 : -9223372036854775808 ≤ n) (hT : Tabs w) :
    Calls Tryd.prog 23 #[.string s, .int .i64 n, .string p] w fun e w' => e = .returned (.string ⟨(leftB s.data.toList p.data.toList n).toArray⟩) ∧ Below w.heap.size w w' := by
  have cC := Lib.hid (left_any s n p w hs hps hn hn0 hT)
  go_enter Tryd.func23, Tryd.ntmps23
  go_wp2_with (go_at_call 47; (with_reducible refine cC.out.mono ?_))
  rintro e w1 ⟨rfl, hb⟩
  dsimp only
  go_wp2
  go_ret
  exact ⟨rfl, hb⟩
set_option maxHeartbeats 2000000 in
set_option maxRecDepth 100000 in
theorem center_any (s : ByteArray) (n : Int) (p : ByteArray) (w : World) (hs : s.size ≤ 2147483647) (hps : p.size ≤ 2147483647) (hn : n ≤ 16384) (hn0 : -9223372036854775808 ≤ n) (hT : Tabs w) :
    Calls Tryd.prog 48 #[.string s, .int .i64 n, .string p] w fun e w' => e = .returned (.string ⟨(centerB s.data.toList p.data.toList n).toArray⟩) ∧ Below w.heap.size w w' := by
  have cS := fun w => xlen_any s w (by omega)
  have cP := fun w => xlen_any p w (by omega)
  have hle := segs_le s
  obtain ⟨m, hm⟩ : ∃ m, (segs s.data.toList).length = m := ⟨_, rfl⟩
  by_cases hc : n ≤ m
  · have hz : n ≤ (m : Int) := hc
    have hr : centerB s.data.toList p.data.toList n = s.data.toList := by unfold centerB; rw [if_pos (.inl (by rw [hm]; exact hc))]
    rw [hr]
    rw [hm] at cS
    have HS := Lib.hid cS
    clear cS cP hr hm hc
    go_enter Tryd.func48, Tryd.ntmps48
    go_wp2_with (go_at_call 39; (with_reducible refine (HS.out _).mono ?_); rintro e w1 ⟨rfl, hb1⟩)
    go_ret
    exact ⟨rfl, hb1⟩
  · have hz : ¬ n ≤ (m : Int) := hc
    rw [hm] at cS hle
    by_cases hp0 : p.size = 0
    · obtain rfl : p = ⟨#[]⟩ := ByteArray.ext (Array.eq_empty_of_size_eq_zero hp0)
      have hr : centerB s.data.toList (⟨#[]⟩ : ByteArray).data.toList n = s.data.toList := by unfold centerB; rw [if_pos (.inr rfl)]
      rw [hr]
      have HS := Lib.hid cS
      clear cS cP hr hm hc
      go_enter Tryd.func48, Tryd.ntmps48
      go_wp2_with (go_at_call 39; (with_reducible refine (HS.out _).mono ?_); rintro e w1 ⟨rfl, hb1⟩)
      go_ret
      exact ⟨rfl, hb1⟩
    · have hp : 0 < p.size := by omega
      obtain ⟨k, hk⟩ : ∃ k : Nat, n - (m : Int) = (k : Int) := ⟨(n - m).toNat, by omega⟩
      have hk1 : 0 < k := by omega
      have hk2 : k ≤ 16384 := by omega
      have hN := segs_pos hp
      have hN2 : (segs p.data.toList).length ≤ 2147483647 := Nat.le_trans (segs_le p) hps
      have hp' : p.data.toList ≠ [] := ne_of_pos hp
      have hr : centerB s.data.toList p.data.toList n = padOf (segs p.data.toList) (k / 2) ++ s.data.toList ++ padOf (segs p.data.toList) ((k + 1) / 2) := by
        unfold centerB lack
        rw [hm, if_neg (by rintro (h | h); exact hc h; exact hp' h), hk]
        rfl
      rw [hr]
      have hpl := padOf_length (segs p.data.toList) (k / 2)
      rw [segs_flatten, ← Lib.size_eq] at hpl
      have hro1 := room (S := s.size) (N := (segs p.data.toList).length) hs hps (show k / 2 ≤ 16384 by omega)
      have hro2 := room (S := s.size) (N := (segs p.data.toList).length) hs hps (show (k + 1) / 2 ≤ 16384 by omega)
      have hro := room (N := (segs p.data.toList).length) hs hps hk2
      have cW := fun (b : Nat) (l : List UInt8) (w : World) (h : IsB b l w) (hT : TabsB b w) (hl : l.length ≤ 70368744177664) => writePad_any b l p (k / 2) w h hT hp hps (by omega) (by omega)
      have cV := fun (b : Nat) (l : List UInt8) (w : World) (h : IsB b l w) (hT : TabsB b w) (hl : l.length ≤ 70368744177664) => writePad_any b l p ((k + 1) / 2) w h hT hp hps (by omega) (by omega)
      obtain ⟨PD, hPD⟩ : ∃ PD, padOf (segs p.data.toList) (k / 2) = PD := ⟨_, rfl⟩
      obtain ⟨PE, hPE⟩ : ∃ PE, padOf (segs p.data.toList) ((k + 1) / 2) = PE := ⟨_, rfl⟩
      have hPL : PD.length ≤ 35190000000000 := by rw [← hPD]; omega
      rw [hPD] at cW
      rw [hPE] at cV
      rw [hPD, hPE]
      clear hpl
      obtain ⟨k1, hk12⟩ : ∃ k1, k / 2 = k1 := ⟨_, rfl⟩
      obtain ⟨k2, hk22⟩ : ∃ k2, (k + 1) / 2 = k2 := ⟨_, rfl⟩
      have hq1' : Int.tdiv (k : Int) 2 = (k1 : Int) := by rw [← hk12]; rfl
      have hq2' : Int.tdiv ((k : Int) + 1) 2 = (k2 : Int) := by rw [← hk22]; rfl
      have hk1b : k1 ≤ 16384 := by omega
      have hk2b : k2 ≤ 16384 := by omega
      rw [hk12] at cW
      rw [hk22] at cV
      clear hk12 hk22
      obtain ⟨N, hNN⟩ : ∃ N, (segs p.data.toList).length = N := ⟨_, rfl⟩
      rw [hNN] at hN hN2 hro cP cW cV
      obtain ⟨q, hq⟩ : ∃ q, k / N = q := ⟨_, rfl⟩
      rw [hq] at hro
      have hq1 : q ≤ 16384 := by rw [← hq]; exact Nat.le_trans (Nat.div_le_self _ _) hk2
      have hquo : Int.tdiv (k : Int) (N : Int) = (q : Int) := by rw [← hq]; rfl
      obtain ⟨M, hM⟩ : ∃ M, (q + 1) * p.size = M := ⟨_, rfl⟩
      rw [hM] at hro
      have hmul : ((q : Int) + 1) * (p.size : Int) = (M : Int) := by rw [← hM]; simp
      have HS := Lib.hid cS
      have HP := Lib.hid cP
      have HW := Lib.hid cW
      have HV := Lib.hid cV
      have hM1 : M ≤ 35190000000000 := hro.2
      have hM2 : s.size + M ≤ 35190000000000 := hro.1
      have hpe := ne_empty hp'
      clear cS cP cW cV hr hm hc hro hro1 hro2 hq hM hNN hPD hPE hp'
      go_enter Tryd.func48, Tryd.ntmps48
      go_wp2_with (go_at_call 39; (with_reducible refine (HS.out _).mono ?_); rintro e w1 ⟨rfl, hb1⟩)
      go_wp2_with (go_at_call 39; (with_reducible refine (HP.out _).mono ?_); rintro e w2 ⟨rfl, hb2⟩)
      have hB1 := bthen hb1 hb2
      have e1 : (s.size : Int) + (M : Int) = ((s.size + M : Nat) : Int) := by simp
      have HG := Lib.hid (fun (w : World) => grow_any w2.heap.size (s.size + M) (w2.alloc (.cells #[.pointer none, .slice none 0 0] 67)) (fresh_any w2) (by omega))
      rw [← e1] at HG
      go_wp2_with (go_at_call 59; (with_reducible refine (HG.out w).mono ?_))
      rintro e w3 ⟨rfl, hk3, hb3⟩
      dsimp only
      have hB3 : Below w2.heap.size w2 w3 := ((Below.refl _ w2).alloc (Nat.le_refl _) _).trans hb3
      have hT2 := tabsB_of ((hT.below hB1)) hB3
      go_wp2_with (go_at_call 60; (with_reducible refine (HW.out _ _ _ hk3 hT2 (by simp)).mono ?_))
      rintro e w4 ⟨rfl, hk4, hb4⟩
      dsimp only
      rw [List.nil_append] at hk4
      have hl4 : PD.length + s.size ≤ 140737488355328 := by omega
      go_wp2_with (go_at_call 61; (with_reducible refine (writeString_any _ _ s _ hk4 hl4).mono ?_))
      rintro e w5 ⟨rfl, hk5, hb5, -⟩
      dsimp only
      have hl5 : (PD ++ s.data.toList).length ≤ 70368744177664 := by rw [List.length_append, ← Lib.size_eq]; omega
      go_wp2_with (go_at_call 60; (with_reducible refine (HV.out _ _ _ hk5 (hT2.below (hb4.trans hb5)) hl5).mono ?_))
      rintro e w7 ⟨rfl, hk7, hb7⟩
      dsimp only
      go_wp2_with (go_at_call 62; (with_reducible refine (string_any _ _ _ hk7).mono ?_))
      rintro e w6 ⟨rfl, -, hb6, -⟩
      dsimp only
      go_wp2
      go_ret
      exact ⟨rfl, bthen hB1 (hB3.trans (hb4.trans (hb5.trans (hb7.trans hb6))))⟩
set_option maxRecDepth 100000 in
theorem implCenter_any (s : ByteArray) (n : Int) (p : ByteArray) (w : World) (hs : s.size ≤ 2147483647) (hps : p.size ≤ 2147483647) (hn : n ≤ 16384) (hn0 : -9223372036854775808 ≤ n) (hT : Tabs w) :
    Calls Tryd.prog 24 #[.string s, .int .i64 n, .string p] w fun e w' => e = .returned (.string ⟨(centerB s.data.toList p.data.toList n).toArray⟩) ∧ Below w.heap.size w w' := by
  have cC := Lib.hid (center_any s n p w hs hps hn hn0 hT)
  go_enter Tryd.func24, Tryd.ntmps24
  go_wp2_with (go_at_call 48; (with_reducible refine cC.out.mono ?_))
  rintro e w1 ⟨rfl, hb⟩
  dsimp only
  go_wp2
  go_ret
  exact ⟨rfl, hb⟩
end Go.Proofs.YtobcoplfniojkaaDoor
