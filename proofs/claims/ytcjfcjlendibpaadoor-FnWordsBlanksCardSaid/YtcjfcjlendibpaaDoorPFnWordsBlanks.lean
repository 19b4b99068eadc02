/- The walk of the law FnWordsBlanks. -/
import Derived.Test.YtcjfcjlendibpaaDoorPOne
import Derived.Test.YtcjfcjlendibpaaDoorAll
set_option linter.unusedVariables false
namespace Go.Proofs.YtcjfcjlendibpaaDoor
open Go.RowKit Plain Go.Proofs.YtcjfcjlendibpaaDoorW.PrintWords

set_option maxHeartbeats 2000000 in
set_option maxRecDepth 100000 in
theorem fnWordsBlanks_walk (s : ByteArray) (n : Int) (w : World) (hs0 : s.size ≤ 140737488351232) (hn : (Lit.int .u8 n).wf = true) (hE0 : EVar w) :
    Calls Tryd.prog 3 #[.string s, .int .u8 n] w fun e w' => e = .returned (.bool true) ∧ Below w.heap.size w w' := by
  obtain ⟨hn0, hn1⟩ := u8_bd hn
  clear hn
  by_cases hb : 2147483647 < s.size
  · have hbz : (2147483647 : Int) < (s.size : Int) := by omega
    go_enter Tryd.func3, Tryd.ntmps3
    go_wp2
    go_ret
    exact ⟨rfl, Below.refl _ _⟩
  have hbz : ¬ (2147483647 : Int) < (s.size : Int) := by omega
  have HO := Lib.hid (one_any w hE0)
  cases hl : decide (4096 < s.size) with
  | true =>
    have HL := Lib.hid (fun w => long_at s w true hl)
    clear hl
    go_enter Tryd.func3, Tryd.ntmps3
    go_wp2_with (first | (go_at_call 9; (with_reducible refine HO.out.mono ?_); rintro e w1 ⟨rfl, hb1⟩; dsimp only) | (go_at_call 10; (with_reducible refine (HL.out _).mono ?_); rintro e w2 ⟨rfl, hb2⟩; dsimp only))
    go_ret
    exact ⟨rfl, bthen hb1 hb2⟩
  | false =>
    have hle : s.size ≤ 4096 := by simpa using hl
    have HL := Lib.hid (fun w => long_at s w false hl)
    clear hl
    obtain ⟨m, hm⟩ : ∃ m : Nat, n % 20 = (m : Int) := ⟨(n % 20).toNat, by omega⟩
    have hm20 : m < 20 := by omega
    obtain ⟨AB, hAB⟩ : ∃ AB : ByteArray, (⟨(List.replicate m 32).toArray⟩ : ByteArray) = AB := ⟨_, rfl⟩
    have HA := Lib.hid (fun w => by have := all_any 32 m 32 (m : Int) rfl rfl w (by omega); rw [hAB] at this; exact this)
    have hABz : AB.size ≤ 20 := by rw [← hAB, Lib.size_eq]; simp; omega
    obtain ⟨X, hX⟩ : ∃ X, words false (rnsOf s.data.toList) = X := ⟨_, rfl⟩
    obtain ⟨S2, hS2⟩ : ∃ S2 : ByteArray, AB ++ s = S2 := ⟨_, rfl⟩
    have hd2 : S2.data.toList = List.replicate m 32 ++ s.data.toList := by rw [← hS2, ← hAB]; simp
    have hz2 : S2.size ≤ 5000 := by rw [Lib.size_eq, hd2, List.length_append, List.length_replicate, ← Lib.size_eq]; omega
    obtain ⟨Y, hY⟩ : ∃ Y, words false (rnsOf S2.data.toList) = Y := ⟨_, rfl⟩
    have hXY : Y.map Prod.fst = X.map Prod.fst := by
      rw [← hX, ← hY, hd2]
      exact words_blanks m s.data.toList
    have hlen : ∀ x ps, X = some (x, ps) → x.length ≤ 4097 := fun x ps h => by
      have := words_len false s.data.toList x ps (hX.trans h)
      rw [← Lib.size_eq] at this
      omega
    have HW1 := Lib.hid (fun w hE => words0 s X hX w (by omega) hE)
    have HW2 := Lib.hid (fun w hE => words0 S2 Y hY w (by omega) hE)
    have hmz : n.tmod 20 = (m : Int) := by rw [Int.tmod_eq_emod_of_nonneg hn0]; exact hm
    clear hX hY hd2 hz2 hle hAB
    go_enter Tryd.func3, Tryd.ntmps3
    go_wp2_with (first | (go_at_call 9; (with_reducible refine HO.out.mono ?_); rintro e w1 ⟨rfl, hb1⟩; dsimp only) | (go_at_call 10; (with_reducible refine (HL.out _).mono ?_); rintro e w2 ⟨rfl, hb2⟩; dsimp only))
    have hB2 := bthen hb1 hb2
    have HE2 := Lib.hid (hE0.below hB2)
    have HB2 := Lib.hid hB2
    clear hb1 hb2 hB2 hE0
    cases X with
    | none =>
      obtain rfl : Y = none := by cases Y with | none => rfl | some p => cases hXY
      clear hXY hlen
      refine (HW1.out _ HE2.out).mono ?_
      intro e w3 hp
      obtain ⟨rfl, hb3⟩ := w0_none hp
      have HE3 := Lib.hid (HE2.out.below hb3)
      have HB3 := Lib.hid (bthen HB2.out hb3)
      clear hp hb3
      dsimp only
      go_wp2_with (go_at_call 12; (with_reducible refine (HA.out _).mono ?_))
      rintro e w4 ⟨rfl, hb4⟩
      dsimp only
      have HE4 := Lib.hid (HE3.out.below hb4)
      have HB4 := Lib.hid (bthen HB3.out hb4)
      clear hb4
      go_wp2_with fail
      (try rw [hS2])
      refine (HW2.out _ HE4.out).mono ?_
      intro e w5 hp
      obtain ⟨rfl, hb5⟩ := w0_none hp
      have HB5 := Lib.hid (bthen HB4.out hb5)
      have HQ := Lib.hid (eqTexts_at none none 0 0 0 0 [] [] w5 true (kc_nil _) (kc_nil _) rfl rfl (Nat.le_refl _) (Nat.le_refl _) (by decide) (by decide))
      clear hp hb5
      dsimp only
      go_wp2_with (go_at_call 13; (with_reducible refine HQ.out.mono ?_); rintro e w6 ⟨rfl, hb6⟩; dsimp only)
      go_ret
      exact ⟨rfl, bthen HB5.out hb6⟩
    | some p =>
      obtain ⟨l, ps⟩ := p
      obtain ⟨ps2, rfl⟩ : ∃ ps2, Y = some (l, ps2) := by
        cases Y with
        | none => cases hXY
        | some p =>
          obtain ⟨l2, q2⟩ := p
          simp at hXY
          subst hXY
          exact ⟨q2, rfl⟩
      have hll := hlen l ps rfl
      clear hXY hlen
      refine (HW1.out _ HE2.out).mono ?_
      intro e w3 hp
      obtain ⟨g1, c1, rfl, ho1, hb3⟩ := w0_some hp
      have hc1 := own_le ho1
      have HK1 := Lib.hid (kc_own ho1 rfl (by omega))
      have HE3 := Lib.hid (HE2.out.below hb3)
      have HB3 := Lib.hid (bthen HB2.out hb3)
      clear hp hb3 ho1
      dsimp only
      go_wp2_with (go_at_call 12; (with_reducible refine (HA.out _).mono ?_))
      rintro e w4 ⟨rfl, hb4⟩
      dsimp only
      have HE4 := Lib.hid (HE3.out.below hb4)
      have HB4 := Lib.hid (bthen HB3.out hb4)
      have HK2 := Lib.hid (Kd.C_below HK1.out hb4)
      clear hb4
      go_wp2_with fail
      (try rw [hS2])
      refine (HW2.out _ HE4.out).mono ?_
      intro e w5 hp
      obtain ⟨g2, c2, rfl, ho2, hb5⟩ := w0_some hp
      have hc2 := own_le ho2
      have HK3 := Lib.hid (kc_own ho2 rfl (by omega))
      have HB5 := Lib.hid (bthen HB4.out hb5)
      have HQ := Lib.hid (eqTexts_at (some ⟨g1, 0, none⟩) (some ⟨g2, 0, none⟩) l.length l.length c1 c2 (baOf l) (baOf l) w5 true (Kd.C_below HK2.out hb5) HK3.out (baOf_length l) (baOf_length l) hc1 hc2 (by omega) (by simp))
      clear hp hb5 ho2
      dsimp only
      go_wp2_with (go_at_call 13; (with_reducible refine HQ.out.mono ?_); rintro e w6 ⟨rfl, hb6⟩; dsimp only)
      go_ret
      exact ⟨rfl, bthen HB5.out hb6⟩
end Go.Proofs.YtcjfcjlendibpaaDoor
