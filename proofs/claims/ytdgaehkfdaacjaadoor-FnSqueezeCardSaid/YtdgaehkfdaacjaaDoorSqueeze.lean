/- The walk of the package's Squeeze. -/
import Derived.Test.YtdgaehkfdaacjaaDoorSqLaw
import Derived.Test.YtdgaehkfdaacjaaDoorTrImpl
import Derived.LoopTactic
set_option linter.unusedVariables false
namespace Go.Proofs.YtdgaehkfdaacjaaDoor
open Go.RowKit Plain

theorem emp_of {s : ByteArray} (h : s.size = 0) : s.toList.isEmpty = true ∧ s.data.toList = [] := by
  have hl : s.data.toList = [] := List.eq_nil_of_length_eq_zero (by rw [← Lib.size_eq]; exact h)
  exact ⟨by rw [ByteArray.toList_eq, hl]; rfl, hl⟩
theorem nemp_of {s : ByteArray} (h : ¬ s.size = 0) : s.toList.isEmpty = false ∧ s.data.toList ≠ [] := by
  have hl : s.data.toList ≠ [] := fun e => h (by rw [Lib.size_eq, e]; rfl)
  refine ⟨?_, hl⟩
  rw [ByteArray.toList_eq]
  cases h9 : s.data.toList with
  | nil => exact absurd h9 hl
  | cons a l => rfl
theorem eqs_iff {a b : ByteArray} : (a.toList == b.toList) = decide (a.data.toList = b.data.toList) := by
  rw [ByteArray.toList_eq, ByteArray.toList_eq]
  by_cases h : a.data.toList = b.data.toList
  · simp [h]
  · rw [decide_eq_false h, beq_eq_false_iff_ne]; exact h

set_option maxHeartbeats 16000000 in
set_option maxRecDepth 100000 in
theorem xSqueeze0 (s : ByteArray) (w0 : World) (hs : s.size ≤ 2147483647) (hT0 : Tabs w0) :
    Calls Tryd.prog 29 #[.string s, .string ⟨#[]⟩] w0 fun e w' => e = .returned (.string (sqS ⟨#[]⟩ s)) ∧ Below w0.heap.size w0 w' := by
  unfold sqS
  obtain ⟨m, hm⟩ : ∃ m, mB (⟨#[]⟩ : ByteArray).data.toList = m := ⟨_, rfl⟩
  have HM1 : Hid (∀ c, m c = true) := Lib.hid (fun c => by rw [← hm]; rfl)
  rw [hm]
  obtain ⟨Z, hZ⟩ : ∃ Z, sq m [] (segs s.data.toList) = Z := ⟨_, rfl⟩
  rw [hZ]
  have HZ := Lib.hid hZ
  have HB0 := Lib.hid (Below.refl w0.heap.size w0)
  clear hZ hm
  go_enter Tryd.func29, Tryd.ntmps29
  go_wp2
  go_loopw [0, 6, 8, 11] (fun sv lv kv ov wr => ∃ (t : ByteArray) (D O : List UInt8) (lb : ByteArray) (sk : Bool), sv = .string t ∧ lv = .string lb ∧ kv = .bool sk ∧ s.data.toList = D ++ t.data.toList ∧ OutV s t O w0.heap.size ov wr ∧ O ++ sq m lb.data.toList (segs t.data.toList) = Z ∧ O.length ≤ D.length ∧ (sk = true → m lb.data.toList = false) ∧ lb.size ≤ 2147483647 ∧ Below w0.heap.size w0 wr) (fun sv _ _ _ _ => match sv with | .string t => t.size | _ => 0)
  case atStart => exact ⟨s, [], [], ⟨#[]⟩, false, rfl, rfl, rfl, rfl, .inl ⟨rfl, by simp⟩, HZ.out, by simp, (fun y => by cases y), by decide, Below.refl _ _⟩
  case round =>
    obtain ⟨t, D, O, lb, sk, rfl, rfl, rfl, hD, hov, hO, hOl, hsk0, hlb, hbw⟩ := hrel
    have hTr := hT0.below hbw
    have HSK := Lib.hid hsk0
    clear hsk0
    by_cases ht0 : 0 < t.size
    · have htz : (0 : Int) < (t.size : Int) := by omega
      obtain ⟨R, K, hh⟩ := head_of t ht0
      have HH := Lib.hid hh
      have hR1 : R ≤ 1114111 := hh.rune
      have hK1 : 1 ≤ K := hh.pos
      have hK2 : K ≤ t.size := hh.le
      obtain ⟨q1, q2, q3, q4⟩ := take_step s t K D hD hK2
      have htl : (t.data.toList.take K).length = K := by rw [List.length_take, ← Lib.size_eq]; omega
      have HSG := Lib.hid (segs_rest t R K hh)
      have HRS := Lib.hid (rest_of t K).2
      have hxe : (t.extract 0 K).data.toList = t.data.toList.take K := by rw [Lib.extract_data]; simp
      have HXE := Lib.hid hxe
      have hxz : (t.extract 0 K).size = K := by simp; omega
      have HXZ := Lib.hid hxz
      have HO := Lib.hid hO
      have Q1 := Lib.hid q1
      have Q3 := Lib.hid q3
      have Q4 := Lib.hid q4
      have HOL : Hid ((O ++ t.data.toList.take K).length ≤ (D ++ t.data.toList.take K).length) := Lib.hid (by rw [List.length_append, List.length_append]; omega)
      have HOD : Hid (O.length ≤ (D ++ t.data.toList.take K).length) := Lib.hid (by rw [List.length_append]; omega)
      have hOk : O.length + K ≤ 140737488355328 := by omega
      have HEQ := Lib.hid (eqs_iff (a := t.extract 0 K) (b := lb))
      skip
      clear hD hO hh hxe hxz q1 q3 q4 htl hOl
      by_cases hl0 : lb.size = 0
      · obtain ⟨hle, hln⟩ := emp_of hl0
        have HK : Hid (¬ (lb.data.toList ≠ [] ∧ t.data.toList.take K = lb.data.toList ∧ m (t.data.toList.take K) = true)) := Lib.hid (fun y => y.1 hln)
        clear hln hl0
        have hkeep : Hid (O ++ t.data.toList.take K ++ sq m (t.extract 0 K).data.toList (segs (t.extract K t.size).data.toList) = Z) := Lib.hid (by rw [HXE.out, List.append_assoc, ← sq_keep _ HK.out, ← HSG.out]; exact HO.out)
        rcases hov with ⟨rfl, hov⟩ | ⟨ob, rfl, hB, hob⟩
        · have HOV := Lib.hid hov
          clear hov
          go_wp2_with (go_at_call 41; (with_reducible refine (decode_any t _ hTr R K HH).mono ?_); rintro e w1 ⟨rfl, hb1⟩; dsimp only)
          go_wp2
          go_roundw
          case rel => exact ⟨_, D ++ t.data.toList.take K, O ++ t.data.toList.take K, _, false, rfl, rfl, rfl, Q3.out, .inl ⟨rfl, by rw [Q4.out, HOV.out, Q1.out]⟩, hkeep.out, HOL.out, (fun y => by cases y), by rw [HXZ.out]; omega, hbw.trans (hb1.mono hbw.size)⟩
          case measure =>
            have hrs := HRS.out
            simp only [hrs]
            omega
        · skip
          go_wp2_with (go_at_call 41; (with_reducible refine (decode_any t _ hTr R K HH).mono ?_); rintro e w1 ⟨rfl, hb1⟩; dsimp only)
          have hB2 := hB.below hb1
          have hlw : O.length + (t.extract 0 K).size ≤ 140737488355328 := by rw [HXZ.out]; exact hOk
          go_wp2_with (go_at_call 46; (with_reducible refine (writeString_any _ _ _ _ hB2 hlw).mono ?_); rintro e w4 ⟨rfl, hB4, hb4, -⟩; dsimp only)
          go_wp2
          go_roundw
          case rel => exact ⟨_, D ++ t.data.toList.take K, O ++ t.data.toList.take K, _, false, rfl, rfl, rfl, Q3.out, .inr ⟨ob, rfl, by rw [← HXE.out]; exact hB4, hob⟩, hkeep.out, HOL.out, (fun y => by cases y), by rw [HXZ.out]; omega, (hbw.trans (hb1.mono hbw.size)).trans (hb4.mono hob)⟩
          case measure =>
            have hrs := HRS.out
            simp only [hrs]
            omega
      · obtain ⟨hle, hln⟩ := nemp_of hl0
        have HLN := Lib.hid hln
        clear hln hl0
        by_cases hx : t.data.toList.take K = lb.data.toList
        · have hxq : ((t.extract 0 K).toList == lb.toList) = true := by rw [HEQ.out, HXE.out]; exact decide_eq_true hx
          cases sk with
          | true =>
            have HK : Hid (¬ (lb.data.toList ≠ [] ∧ t.data.toList.take K = lb.data.toList ∧ m (t.data.toList.take K) = true)) := Lib.hid (fun y => by have h1 := HSK.out rfl; rw [← hx, y.2.2] at h1; cases h1)
            clear hx
            have hkeep : Hid (O ++ t.data.toList.take K ++ sq m (t.extract 0 K).data.toList (segs (t.extract K t.size).data.toList) = Z) := Lib.hid (by rw [HXE.out, List.append_assoc, ← sq_keep _ HK.out, ← HSG.out]; exact HO.out)
            rcases hov with ⟨rfl, hov⟩ | ⟨ob, rfl, hB, hob⟩
            · have HOV := Lib.hid hov
              clear hov
              go_wp2_with (go_at_call 41; (with_reducible refine (decode_any t _ hTr R K HH).mono ?_); rintro e w1 ⟨rfl, hb1⟩; dsimp only)
              go_wp2
              go_roundw
              case rel => exact ⟨_, D ++ t.data.toList.take K, O ++ t.data.toList.take K, _, false, rfl, rfl, rfl, Q3.out, .inl ⟨rfl, by rw [Q4.out, HOV.out, Q1.out]⟩, hkeep.out, HOL.out, (fun y => by cases y), by rw [HXZ.out]; omega, hbw.trans (hb1.mono hbw.size)⟩
              case measure =>
                have hrs := HRS.out
                simp only [hrs]
                omega
            · skip
              go_wp2_with (go_at_call 41; (with_reducible refine (decode_any t _ hTr R K HH).mono ?_); rintro e w1 ⟨rfl, hb1⟩; dsimp only)
              have hB2 := hB.below hb1
              have hlw : O.length + (t.extract 0 K).size ≤ 140737488355328 := by rw [HXZ.out]; exact hOk
              go_wp2_with (go_at_call 46; (with_reducible refine (writeString_any _ _ _ _ hB2 hlw).mono ?_); rintro e w4 ⟨rfl, hB4, hb4, -⟩; dsimp only)
              go_wp2
              go_roundw
              case rel => exact ⟨_, D ++ t.data.toList.take K, O ++ t.data.toList.take K, _, false, rfl, rfl, rfl, Q3.out, .inr ⟨ob, rfl, by rw [← HXE.out]; exact hB4, hob⟩, hkeep.out, HOL.out, (fun y => by cases y), by rw [HXZ.out]; omega, (hbw.trans (hb1.mono hbw.size)).trans (hb4.mono hob)⟩
              case measure =>
                have hrs := HRS.out
                simp only [hrs]
                omega
          | false =>
            have HK := Lib.hid hx
            clear hx
            have HM : Hid (m (t.data.toList.take K) = true) := Lib.hid (HM1.out _)
            have hdrop : Hid (O ++ sq m lb.data.toList (segs (t.extract K t.size).data.toList) = Z) := Lib.hid (by rw [← sq_drop _ HLN.out HK.out HM.out, ← HSG.out]; exact HO.out)
            rcases hov with ⟨rfl, hov⟩ | ⟨ob, rfl, hB, hob⟩
            · have HOV := Lib.hid hov
              clear hov
              go_wp2_with (go_at_call 41; (with_reducible refine (decode_any t _ hTr R K HH).mono ?_); rintro e w1 ⟨rfl, hb1⟩; dsimp only)
              skip
              go_wp2_with (go_at_call 45; (with_reducible refine (allocBuffer_any s t _ (by omega) hs).mono ?_); rintro e w3 ⟨rfl, hB3, hb3⟩; dsimp only)
              go_wp2
              go_roundw
              case rel => exact ⟨_, D ++ t.data.toList.take K, O, lb, false, rfl, rfl, rfl, Q3.out, .inr ⟨w1.heap.size, rfl, by rw [HOV.out]; exact hB3, Nat.le_trans hbw.size hb1.size⟩, hdrop.out, HOD.out, (fun y => by cases y), hlb, (hbw.trans (hb1.mono hbw.size)).trans (hb3.mono (Nat.le_trans hbw.size hb1.size))⟩
              case measure =>
                have hrs := HRS.out
                simp only [hrs]
                omega
            · skip
              go_wp2_with (go_at_call 41; (with_reducible refine (decode_any t _ hTr R K HH).mono ?_); rintro e w1 ⟨rfl, hb1⟩; dsimp only)
              skip
              have hB2 := hB.below hb1
              go_wp2
              go_roundw
              case rel => exact ⟨_, D ++ t.data.toList.take K, O, lb, false, rfl, rfl, rfl, Q3.out, .inr ⟨ob, rfl, hB2, hob⟩, hdrop.out, HOD.out, (fun y => by cases y), hlb, hbw.trans (hb1.mono hbw.size)⟩
              case measure =>
                have hrs := HRS.out
                simp only [hrs]
                omega
        · have hxq : ((t.extract 0 K).toList == lb.toList) = false := by rw [HEQ.out, HXE.out]; exact decide_eq_false hx
          have HK : Hid (¬ (lb.data.toList ≠ [] ∧ t.data.toList.take K = lb.data.toList ∧ m (t.data.toList.take K) = true)) := Lib.hid (fun y => hx y.2.1)
          clear hx
          have hkeep : Hid (O ++ t.data.toList.take K ++ sq m (t.extract 0 K).data.toList (segs (t.extract K t.size).data.toList) = Z) := Lib.hid (by rw [HXE.out, List.append_assoc, ← sq_keep _ HK.out, ← HSG.out]; exact HO.out)
          rcases hov with ⟨rfl, hov⟩ | ⟨ob, rfl, hB, hob⟩
          · have HOV := Lib.hid hov
            clear hov
            go_wp2_with (go_at_call 41; (with_reducible refine (decode_any t _ hTr R K HH).mono ?_); rintro e w1 ⟨rfl, hb1⟩; dsimp only)
            go_wp2
            go_roundw
            case rel => exact ⟨_, D ++ t.data.toList.take K, O ++ t.data.toList.take K, _, false, rfl, rfl, rfl, Q3.out, .inl ⟨rfl, by rw [Q4.out, HOV.out, Q1.out]⟩, hkeep.out, HOL.out, (fun y => by cases y), by rw [HXZ.out]; omega, hbw.trans (hb1.mono hbw.size)⟩
            case measure =>
              have hrs := HRS.out
              simp only [hrs]
              omega
          · skip
            go_wp2_with (go_at_call 41; (with_reducible refine (decode_any t _ hTr R K HH).mono ?_); rintro e w1 ⟨rfl, hb1⟩; dsimp only)
            have hB2 := hB.below hb1
            have hlw : O.length + (t.extract 0 K).size ≤ 140737488355328 := by rw [HXZ.out]; exact hOk
            go_wp2_with (go_at_call 46; (with_reducible refine (writeString_any _ _ _ _ hB2 hlw).mono ?_); rintro e w4 ⟨rfl, hB4, hb4, -⟩; dsimp only)
            go_wp2
            go_roundw
            case rel => exact ⟨_, D ++ t.data.toList.take K, O ++ t.data.toList.take K, _, false, rfl, rfl, rfl, Q3.out, .inr ⟨ob, rfl, by rw [← HXE.out]; exact hB4, hob⟩, hkeep.out, HOL.out, (fun y => by cases y), by rw [HXZ.out]; omega, (hbw.trans (hb1.mono hbw.size)).trans (hb4.mono hob)⟩
            case measure =>
              have hrs := HRS.out
              simp only [hrs]
              omega
    · have htz : ¬ (0 : Int) < (t.size : Int) := by omega
      have htn : t.data.toList = [] := List.eq_nil_of_length_eq_zero (by rw [← Lib.size_eq]; omega)
      have hOZ : Hid (O = Z) := Lib.hid (by rw [htn] at hO; exact (List.append_nil O).symm.trans hO)
      have hts : t.size = 0 := by omega
      rcases hov with ⟨rfl, hov⟩ | ⟨ob, rfl, hB, hob⟩
      · have hfin : Hid (s = ⟨Z.toArray⟩) := Lib.hid (by
          rw [← hOZ.out, hov, hts, Nat.sub_zero, List.take_of_length_le (by rw [← Lib.size_eq]; exact Nat.le_refl _)])
        clear hD hO hov htn hts
        go_wp2
        go_ret
        exact ⟨ret_str hfin.out, bthen HB0.out hbw⟩
      · clear hD hO htn hts
        go_wp2_with (go_at_call 47; (with_reducible refine (string_any _ _ _ hB).mono ?_); rintro e w3 ⟨rfl, -, hb3, -⟩; dsimp only)
        go_wp2
        go_ret
        exact ⟨ret_str (by rw [← hOZ.out]), bthen HB0.out (hbw.trans (hb3.mono hob))⟩
set_option maxHeartbeats 16000000 in
set_option maxRecDepth 100000 in
theorem xSqueeze1 (s P : ByteArray) (w : World) (hs : s.size ≤ 2147483647) (hP0 : 0 < P.size) (hP : P.size ≤ 2000) (hT : Tabs w) :
    Calls Tryd.prog 29 #[.string s, .string P] w fun e w' => e = .returned (.string (sqS P s)) ∧ Below w.heap.size w w' := by
  have HN : Hid (Calls Tryd.prog 27 #[.string P, .string ⟨#[]⟩] w (NewC P.data.toList [] w)) := Lib.hid (new_c P nilS w hT hP (by decide))
  have HF0 : Hid (P.data.toList ≠ []) := Lib.hid (nemp_of (by omega)).2
  have hPz : (0 : Int) < (P.size : Int) := by omega
  unfold sqS
  obtain ⟨m, hm⟩ : ∃ m, mB P.data.toList = m := ⟨_, rfl⟩
  have HMM := Lib.hid hm
  rw [hm]
  obtain ⟨Z, hZ⟩ : ∃ Z, sq m [] (segs s.data.toList) = Z := ⟨_, rfl⟩
  rw [hZ]
  have HZ := Lib.hid hZ
  clear hZ hm hP
  go_enter Tryd.func29, Tryd.ntmps29
  go_wp2_with (go_at_call 27; with_reducible refine HN.out.mono ?_)
  rintro e w0 ⟨pb, rfl, hp, hb0⟩
  have HP := Lib.hid hp
  have hT0 := hT.below hb0
  have HB0 := Lib.hid hb0
  clear hp hb0
  dsimp only
  go_wp2_with fail
  go_loopw [0, 6, 8, 11] (fun sv lv kv ov wr => ∃ (t : ByteArray) (D O : List UInt8) (lb : ByteArray) (sk : Bool), sv = .string t ∧ lv = .string lb ∧ kv = .bool sk ∧ s.data.toList = D ++ t.data.toList ∧ OutV s t O w0.heap.size ov wr ∧ O ++ sq m lb.data.toList (segs t.data.toList) = Z ∧ O.length ≤ D.length ∧ (sk = true → m lb.data.toList = false) ∧ lb.size ≤ 2147483647 ∧ Below w0.heap.size w0 wr) (fun sv _ _ _ _ => match sv with | .string t => t.size | _ => 0)
  case atStart => exact ⟨s, [], [], ⟨#[]⟩, false, rfl, rfl, rfl, rfl, .inl ⟨rfl, by simp⟩, HZ.out, by simp, (fun y => by cases y), by decide, Below.refl _ _⟩
  case round =>
    obtain ⟨t, D, O, lb, sk, rfl, rfl, rfl, hD, hov, hO, hOl, hsk0, hlb, hbw⟩ := hrel
    have hTr := hT0.below hbw
    have HSK := Lib.hid hsk0
    clear hsk0
    by_cases ht0 : 0 < t.size
    · have htz : (0 : Int) < (t.size : Int) := by omega
      obtain ⟨R, K, hh⟩ := head_of t ht0
      have HH := Lib.hid hh
      have hR1 : R ≤ 1114111 := hh.rune
      have hK1 : 1 ≤ K := hh.pos
      have hK2 : K ≤ t.size := hh.le
      obtain ⟨q1, q2, q3, q4⟩ := take_step s t K D hD hK2
      have htl : (t.data.toList.take K).length = K := by rw [List.length_take, ← Lib.size_eq]; omega
      have HSG := Lib.hid (segs_rest t R K hh)
      have HRS := Lib.hid (rest_of t K).2
      have hxe : (t.extract 0 K).data.toList = t.data.toList.take K := by rw [Lib.extract_data]; simp
      have HXE := Lib.hid hxe
      have hxz : (t.extract 0 K).size = K := by simp; omega
      have HXZ := Lib.hid hxz
      have HO := Lib.hid hO
      have Q1 := Lib.hid q1
      have Q3 := Lib.hid q3
      have Q4 := Lib.hid q4
      have HOL : Hid ((O ++ t.data.toList.take K).length ≤ (D ++ t.data.toList.take K).length) := Lib.hid (by rw [List.length_append, List.length_append]; omega)
      have HOD : Hid (O.length ≤ (D ++ t.data.toList.take K).length) := Lib.hid (by rw [List.length_append]; omega)
      have hOk : O.length + K ≤ 140737488355328 := by omega
      have HEQ := Lib.hid (eqs_iff (a := t.extract 0 K) (b := lb))
      obtain ⟨x, mt, dl, hx9⟩ : ∃ x mt dl, trR (ntrL P.data.toList []).1 (flL P.data.toList []) R = (x, mt, dl) := ⟨_, _, _, rfl⟩
      have HMT : Hid (m (t.data.toList.take K) = mt) := Lib.hid (by
        rw [← HMM.out]
        unfold mB
        rw [if_neg HF0.out, ← hh.run, hx9])
      have HTR := Lib.hid (fun w' (hb : Below wr.heap.size wr w') => tRune_is HF0.out ((HP.out.below hbw).below hb) R hR1 x mt dl hx9)
      clear hx9
      clear hD hO hh hxe hxz q1 q3 q4 htl hOl
      by_cases hl0 : lb.size = 0
      · obtain ⟨hle, hln⟩ := emp_of hl0
        have HK : Hid (¬ (lb.data.toList ≠ [] ∧ t.data.toList.take K = lb.data.toList ∧ m (t.data.toList.take K) = true)) := Lib.hid (fun y => y.1 hln)
        clear hln hl0
        have hkeep : Hid (O ++ t.data.toList.take K ++ sq m (t.extract 0 K).data.toList (segs (t.extract K t.size).data.toList) = Z) := Lib.hid (by rw [HXE.out, List.append_assoc, ← sq_keep _ HK.out, ← HSG.out]; exact HO.out)
        rcases hov with ⟨rfl, hov⟩ | ⟨ob, rfl, hB, hob⟩
        · have HOV := Lib.hid hov
          clear hov
          go_wp2_with (go_at_call 41; (with_reducible refine (decode_any t _ hTr R K HH).mono ?_); rintro e w1 ⟨rfl, hb1⟩; dsimp only)
          go_wp2
          go_roundw
          case rel => exact ⟨_, D ++ t.data.toList.take K, O ++ t.data.toList.take K, _, false, rfl, rfl, rfl, Q3.out, .inl ⟨rfl, by rw [Q4.out, HOV.out, Q1.out]⟩, hkeep.out, HOL.out, (fun y => by cases y), by rw [HXZ.out]; omega, hbw.trans (hb1.mono hbw.size)⟩
          case measure =>
            have hrs := HRS.out
            simp only [hrs]
            omega
        · skip
          go_wp2_with (go_at_call 41; (with_reducible refine (decode_any t _ hTr R K HH).mono ?_); rintro e w1 ⟨rfl, hb1⟩; dsimp only)
          have hB2 := hB.below hb1
          have hlw : O.length + (t.extract 0 K).size ≤ 140737488355328 := by rw [HXZ.out]; exact hOk
          go_wp2_with (go_at_call 46; (with_reducible refine (writeString_any _ _ _ _ hB2 hlw).mono ?_); rintro e w4 ⟨rfl, hB4, hb4, -⟩; dsimp only)
          go_wp2
          go_roundw
          case rel => exact ⟨_, D ++ t.data.toList.take K, O ++ t.data.toList.take K, _, false, rfl, rfl, rfl, Q3.out, .inr ⟨ob, rfl, by rw [← HXE.out]; exact hB4, hob⟩, hkeep.out, HOL.out, (fun y => by cases y), by rw [HXZ.out]; omega, (hbw.trans (hb1.mono hbw.size)).trans (hb4.mono hob)⟩
          case measure =>
            have hrs := HRS.out
            simp only [hrs]
            omega
      · obtain ⟨hle, hln⟩ := nemp_of hl0
        have HLN := Lib.hid hln
        clear hln hl0
        by_cases hx : t.data.toList.take K = lb.data.toList
        · have hxq : ((t.extract 0 K).toList == lb.toList) = true := by rw [HEQ.out, HXE.out]; exact decide_eq_true hx
          cases sk with
          | true =>
            have HK : Hid (¬ (lb.data.toList ≠ [] ∧ t.data.toList.take K = lb.data.toList ∧ m (t.data.toList.take K) = true)) := Lib.hid (fun y => by have h1 := HSK.out rfl; rw [← hx, y.2.2] at h1; cases h1)
            clear hx
            have hkeep : Hid (O ++ t.data.toList.take K ++ sq m (t.extract 0 K).data.toList (segs (t.extract K t.size).data.toList) = Z) := Lib.hid (by rw [HXE.out, List.append_assoc, ← sq_keep _ HK.out, ← HSG.out]; exact HO.out)
            rcases hov with ⟨rfl, hov⟩ | ⟨ob, rfl, hB, hob⟩
            · have HOV := Lib.hid hov
              clear hov
              go_wp2_with (go_at_call 41; (with_reducible refine (decode_any t _ hTr R K HH).mono ?_); rintro e w1 ⟨rfl, hb1⟩; dsimp only)
              go_wp2
              go_roundw
              case rel => exact ⟨_, D ++ t.data.toList.take K, O ++ t.data.toList.take K, _, false, rfl, rfl, rfl, Q3.out, .inl ⟨rfl, by rw [Q4.out, HOV.out, Q1.out]⟩, hkeep.out, HOL.out, (fun y => by cases y), by rw [HXZ.out]; omega, hbw.trans (hb1.mono hbw.size)⟩
              case measure =>
                have hrs := HRS.out
                simp only [hrs]
                omega
            · skip
              go_wp2_with (go_at_call 41; (with_reducible refine (decode_any t _ hTr R K HH).mono ?_); rintro e w1 ⟨rfl, hb1⟩; dsimp only)
              have hB2 := hB.below hb1
              have hlw : O.length + (t.extract 0 K).size ≤ 140737488355328 := by rw [HXZ.out]; exact hOk
              go_wp2_with (go_at_call 46; (with_reducible refine (writeString_any _ _ _ _ hB2 hlw).mono ?_); rintro e w4 ⟨rfl, hB4, hb4, -⟩; dsimp only)
              go_wp2
              go_roundw
              case rel => exact ⟨_, D ++ t.data.toList.take K, O ++ t.data.toList.take K, _, false, rfl, rfl, rfl, Q3.out, .inr ⟨ob, rfl, by rw [← HXE.out]; exact hB4, hob⟩, hkeep.out, HOL.out, (fun y => by cases y), by rw [HXZ.out]; omega, (hbw.trans (hb1.mono hbw.size)).trans (hb4.mono hob)⟩
              case measure =>
                have hrs := HRS.out
                simp only [hrs]
                omega
          | false =>
            have HK := Lib.hid hx
            clear hx
            cases mt with
            | true =>
              have HM : Hid (m (t.data.toList.take K) = true) := HMT
              have hdrop : Hid (O ++ sq m lb.data.toList (segs (t.extract K t.size).data.toList) = Z) := Lib.hid (by rw [← sq_drop _ HLN.out HK.out HM.out, ← HSG.out]; exact HO.out)
              rcases hov with ⟨rfl, hov⟩ | ⟨ob, rfl, hB, hob⟩
              · have HOV := Lib.hid hov
                clear hov
                go_wp2_with (go_at_call 41; (with_reducible refine (decode_any t _ hTr R K HH).mono ?_); rintro e w1 ⟨rfl, hb1⟩; dsimp only)
                go_wp2_with (go_at_call 44; (with_reducible refine (HTR.out _ hb1).mono ?_); rintro e w2 ⟨rfl, hb2⟩; dsimp only)
                go_wp2_with (go_at_call 45; (with_reducible refine (allocBuffer_any s t _ (by omega) hs).mono ?_); rintro e w3 ⟨rfl, hB3, hb3⟩; dsimp only)
                go_wp2
                go_roundw
                case rel => exact ⟨_, D ++ t.data.toList.take K, O, lb, false, rfl, rfl, rfl, Q3.out, .inr ⟨w2.heap.size, rfl, by rw [HOV.out]; exact hB3, Nat.le_trans hbw.size (Nat.le_trans hb1.size hb2.size)⟩, hdrop.out, HOD.out, (fun y => by cases y), hlb, ((hbw.trans (hb1.mono hbw.size)).trans (hb2.mono (Nat.le_trans hbw.size hb1.size))).trans (hb3.mono (Nat.le_trans hbw.size (Nat.le_trans hb1.size hb2.size)))⟩
                case measure =>
                  have hrs := HRS.out
                  simp only [hrs]
                  omega
              · skip
                go_wp2_with (go_at_call 41; (with_reducible refine (decode_any t _ hTr R K HH).mono ?_); rintro e w1 ⟨rfl, hb1⟩; dsimp only)
                go_wp2_with (go_at_call 44; (with_reducible refine (HTR.out _ hb1).mono ?_); rintro e w2 ⟨rfl, hb2⟩; dsimp only)
                have hB2 := (hB.below hb1).below hb2
                go_wp2
                go_roundw
                case rel => exact ⟨_, D ++ t.data.toList.take K, O, lb, false, rfl, rfl, rfl, Q3.out, .inr ⟨ob, rfl, hB2, hob⟩, hdrop.out, HOD.out, (fun y => by cases y), hlb, (hbw.trans (hb1.mono hbw.size)).trans (hb2.mono (Nat.le_trans hbw.size hb1.size))⟩
                case measure =>
                  have hrs := HRS.out
                  simp only [hrs]
                  omega
            | false =>
              have HM : Hid (m (t.data.toList.take K) = false) := HMT
              have hkeep : Hid (O ++ t.data.toList.take K ++ sq m lb.data.toList (segs (t.extract K t.size).data.toList) = Z) := Lib.hid (by
                have h1 : ¬ (lb.data.toList ≠ [] ∧ t.data.toList.take K = lb.data.toList ∧ m (t.data.toList.take K) = true) := fun y => by rw [HM.out] at y; exact absurd y.2.2 (by decide)
                have h2 := HO.out
                rw [HSG.out, sq_keep _ h1] at h2
                rw [← HK.out, List.append_assoc]
                exact h2)
              have hsk : Hid (m lb.data.toList = false) := Lib.hid (by rw [← HK.out]; exact HM.out)
              rcases hov with ⟨rfl, hov⟩ | ⟨ob, rfl, hB, hob⟩
              · have HOV := Lib.hid hov
                clear hov
                go_wp2_with (go_at_call 41; (with_reducible refine (decode_any t _ hTr R K HH).mono ?_); rintro e w1 ⟨rfl, hb1⟩; dsimp only)
                go_wp2_with (go_at_call 44; (with_reducible refine (HTR.out _ hb1).mono ?_); rintro e w2 ⟨rfl, hb2⟩; dsimp only)
                go_wp2_with (go_at_call 45; (with_reducible refine (allocBuffer_any s t _ (by omega) hs).mono ?_); rintro e w3 ⟨rfl, hB3, hb3⟩; dsimp only)
                have hB2 : IsB w2.heap.size O w3 := by rw [HOV.out]; exact hB3
                have hlw : O.length + (t.extract 0 K).size ≤ 140737488355328 := by rw [HXZ.out]; exact hOk
                go_wp2_with (go_at_call 46; (with_reducible refine (writeString_any _ _ _ _ hB2 hlw).mono ?_); rintro e w4 ⟨rfl, hB4, hb4, -⟩; dsimp only)
                go_wp2
                go_roundw
                case rel => exact ⟨_, D ++ t.data.toList.take K, O ++ t.data.toList.take K, lb, true, rfl, rfl, rfl, Q3.out, .inr ⟨w2.heap.size, rfl, by rw [← HXE.out]; exact hB4, Nat.le_trans hbw.size (Nat.le_trans hb1.size hb2.size)⟩, hkeep.out, HOL.out, (fun _ => hsk.out), hlb, (((hbw.trans (hb1.mono hbw.size)).trans (hb2.mono (Nat.le_trans hbw.size hb1.size))).trans (hb3.mono (Nat.le_trans hbw.size (Nat.le_trans hb1.size hb2.size)))).trans (hb4.mono (Nat.le_trans hbw.size (Nat.le_trans hb1.size hb2.size)))⟩
                case measure =>
                  have hrs := HRS.out
                  simp only [hrs]
                  omega
              · skip
                go_wp2_with (go_at_call 41; (with_reducible refine (decode_any t _ hTr R K HH).mono ?_); rintro e w1 ⟨rfl, hb1⟩; dsimp only)
                go_wp2_with (go_at_call 44; (with_reducible refine (HTR.out _ hb1).mono ?_); rintro e w2 ⟨rfl, hb2⟩; dsimp only)
                have hB2 := (hB.below hb1).below hb2
                have hlw : O.length + (t.extract 0 K).size ≤ 140737488355328 := by rw [HXZ.out]; exact hOk
                go_wp2_with (go_at_call 46; (with_reducible refine (writeString_any _ _ _ _ hB2 hlw).mono ?_); rintro e w4 ⟨rfl, hB4, hb4, -⟩; dsimp only)
                go_wp2
                go_roundw
                case rel => exact ⟨_, D ++ t.data.toList.take K, O ++ t.data.toList.take K, lb, true, rfl, rfl, rfl, Q3.out, .inr ⟨ob, rfl, by rw [← HXE.out]; exact hB4, hob⟩, hkeep.out, HOL.out, (fun _ => hsk.out), hlb, ((hbw.trans (hb1.mono hbw.size)).trans (hb2.mono (Nat.le_trans hbw.size hb1.size))).trans (hb4.mono hob)⟩
                case measure =>
                  have hrs := HRS.out
                  simp only [hrs]
                  omega
        · have hxq : ((t.extract 0 K).toList == lb.toList) = false := by rw [HEQ.out, HXE.out]; exact decide_eq_false hx
          have HK : Hid (¬ (lb.data.toList ≠ [] ∧ t.data.toList.take K = lb.data.toList ∧ m (t.data.toList.take K) = true)) := Lib.hid (fun y => hx y.2.1)
          clear hx
          have hkeep : Hid (O ++ t.data.toList.take K ++ sq m (t.extract 0 K).data.toList (segs (t.extract K t.size).data.toList) = Z) := Lib.hid (by rw [HXE.out, List.append_assoc, ← sq_keep _ HK.out, ← HSG.out]; exact HO.out)
          rcases hov with ⟨rfl, hov⟩ | ⟨ob, rfl, hB, hob⟩
          · have HOV := Lib.hid hov
            clear hov
            go_wp2_with (go_at_call 41; (with_reducible refine (decode_any t _ hTr R K HH).mono ?_); rintro e w1 ⟨rfl, hb1⟩; dsimp only)
            go_wp2
            go_roundw
            case rel => exact ⟨_, D ++ t.data.toList.take K, O ++ t.data.toList.take K, _, false, rfl, rfl, rfl, Q3.out, .inl ⟨rfl, by rw [Q4.out, HOV.out, Q1.out]⟩, hkeep.out, HOL.out, (fun y => by cases y), by rw [HXZ.out]; omega, hbw.trans (hb1.mono hbw.size)⟩
            case measure =>
              have hrs := HRS.out
              simp only [hrs]
              omega
          · skip
            go_wp2_with (go_at_call 41; (with_reducible refine (decode_any t _ hTr R K HH).mono ?_); rintro e w1 ⟨rfl, hb1⟩; dsimp only)
            have hB2 := hB.below hb1
            have hlw : O.length + (t.extract 0 K).size ≤ 140737488355328 := by rw [HXZ.out]; exact hOk
            go_wp2_with (go_at_call 46; (with_reducible refine (writeString_any _ _ _ _ hB2 hlw).mono ?_); rintro e w4 ⟨rfl, hB4, hb4, -⟩; dsimp only)
            go_wp2
            go_roundw
            case rel => exact ⟨_, D ++ t.data.toList.take K, O ++ t.data.toList.take K, _, false, rfl, rfl, rfl, Q3.out, .inr ⟨ob, rfl, by rw [← HXE.out]; exact hB4, hob⟩, hkeep.out, HOL.out, (fun y => by cases y), by rw [HXZ.out]; omega, (hbw.trans (hb1.mono hbw.size)).trans (hb4.mono hob)⟩
            case measure =>
              have hrs := HRS.out
              simp only [hrs]
              omega
    · have htz : ¬ (0 : Int) < (t.size : Int) := by omega
      have htn : t.data.toList = [] := List.eq_nil_of_length_eq_zero (by rw [← Lib.size_eq]; omega)
      have hOZ : Hid (O = Z) := Lib.hid (by rw [htn] at hO; exact (List.append_nil O).symm.trans hO)
      have hts : t.size = 0 := by omega
      rcases hov with ⟨rfl, hov⟩ | ⟨ob, rfl, hB, hob⟩
      · have hfin : Hid (s = ⟨Z.toArray⟩) := Lib.hid (by
          rw [← hOZ.out, hov, hts, Nat.sub_zero, List.take_of_length_le (by rw [← Lib.size_eq]; exact Nat.le_refl _)])
        clear hD hO hov htn hts
        go_wp2
        go_ret
        exact ⟨ret_str hfin.out, bthen HB0.out hbw⟩
      · clear hD hO htn hts
        go_wp2_with (go_at_call 47; (with_reducible refine (string_any _ _ _ hB).mono ?_); rintro e w3 ⟨rfl, -, hb3, -⟩; dsimp only)
        go_wp2
        go_ret
        exact ⟨ret_str (by rw [← hOZ.out]), bthen HB0.out (hbw.trans (hb3.mono hob))⟩
theorem iSqueeze (s P : ByteArray) (w : World) (hs : s.size ≤ 2147483647) (hP : P.size ≤ 2000) (hT : Tabs w) :
    Calls Tryd.prog 13 #[.string s, .string P] w fun e w' => e = .returned (.string (sqS P s)) ∧ Below w.heap.size w w' := by
  have HN : Hid (Calls Tryd.prog 29 #[.string s, .string P] w fun e w' => e = .returned (.string (sqS P s)) ∧ Below w.heap.size w w') := Lib.hid (by
    by_cases h0 : P.size = 0
    · obtain rfl : P = ⟨#[]⟩ := by
        apply ByteArray.ext
        apply Array.eq_empty_of_size_eq_zero
        exact h0
      exact xSqueeze0 s w hs hT
    · exact xSqueeze1 s P w hs (by omega) hP hT)
  go_enter Tryd.func13, Tryd.ntmps13
  go_wp2_with (go_at_call 29; (with_reducible refine HN.out.mono ?_); rintro e w2 ⟨rfl, hb2⟩; dsimp only)
  go_ret
  exact ⟨rfl, hb2⟩
end Go.Proofs.YtdgaehkfdaacjaaDoor
