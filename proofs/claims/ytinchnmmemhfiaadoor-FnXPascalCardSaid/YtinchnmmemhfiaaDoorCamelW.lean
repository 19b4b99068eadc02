/- The walk of xstrings' toCamelCase on words with single separators. -/
import Derived.Test.YtinchnmmemhfiaaDoorCamel
import Derived.Test.YtinchnmmemhfiaaDoorFrm
set_option linter.unusedVariables false
namespace Go.Proofs.YtinchnmmemhfiaaDoor
open Go.RowKit Plain

/-- what is known at the second loop's head -/
theorem camel_step (O : List UInt8) (r c : UInt8) (fu : Bool) (t Z : List UInt8) (h : O ++ camel r fu (c :: t) = Z) :
    (conB r = true → conB c = true → (O ++ [r]) ++ camel c fu t = Z) ∧ (conB r = true → conB c = false → O ++ camel (upB c) (capB c) t = Z) ∧
    (conB r = false → fu = true → capB c = true → (O ++ [r]) ++ camel (dnB c) true t = Z) ∧ (conB r = false → (fu && capB c) = false → (O ++ [r]) ++ camel c false t = Z) := by
  subst h
  refine ⟨fun h1 h2 => ?_, fun h1 h2 => ?_, fun h1 h2 h3 => ?_, fun h1 h2 => ?_⟩ <;> simp [camel, *]

set_option maxHeartbeats 4000000 in
set_option maxRecDepth 100000 in
theorem toCamel_any (s : ByteArray) (c0 : UInt8) (t0 : List UInt8) (big : Bool) (w : World) (hs : s.size ≤ 2147483647) (hst : s.data.toList = c0 :: t0) (hdom : ∀ b ∈ c0 :: t0, domB b = true) (hc0 : conB c0 = false) (hP : PTab w) :
    Calls Tryd.prog 14 #[.string s, .bool big] w fun e w' => e = .returned (.string ⟨(camel (if big then upB c0 else dnB c0) (capB c0) t0).toArray⟩) ∧ Below w.heap.size w w' := by
  have hpos : (0 : Int) < (s.size : Int) := by have := congrArg List.length hst; rw [← Lib.size_eq] at this; simp at this; omega
  have hne : ((s.size : Int) == 0) = false := by rw [beq_eq_false_iff_ne]; omega
  have hd0 := hdom c0 List.mem_cons_self
  have ha0 := dom_asc c0 hd0
  have HDc := Lib.hid (fun w => dec_asc s c0 t0 w hst ha0)
  have HC0 := Lib.hid (fun w => hc0 ▸ isCon_any c0 w hd0)
  have HU0 := Lib.hid (fun w h => isUp_any c0 w ha0 h)
  have HTL := tail_of s c0 t0 hst
  obtain ⟨s1, hs1⟩ : ∃ s1, s.extract 1 s.size = s1 := ⟨_, rfl⟩
  rw [hs1] at HTL
  have HS1 := Lib.hid hs1
  have HT1 := Lib.hid HTL.1
  have hz1 : s1.size + 1 ≤ s.size := by have := HTL.2; omega
  have hz2 : s.size ≤ s1.size + 1 := by have := HTL.2; omega
  have HD := Lib.hid hdom
  clear hst hdom HTL hs1
  obtain ⟨r, hr⟩ : ∃ r, (if big then upB c0 else dnB c0) = r := ⟨_, rfl⟩
  obtain ⟨fu, hfu⟩ : ∃ fu, capB c0 = fu := ⟨_, rfl⟩
  rw [hr, hfu]
  rw [hfu] at HU0
  obtain ⟨Z, hZ⟩ : ∃ Z, camel r fu t0 = Z := ⟨_, rfl⟩
  rw [hZ]
  have HZ := Lib.hid hZ
  have hdr : domB r = true := by rw [← hr]; split; exact (dom_up c0 hd0).1; exact (dom_up c0 hd0).2
  have har := dom_asc r hdr
  have HCr := Lib.hid hdr
  have HCR : Hid (conB r = false) := Lib.hid (by rw [← hr]; split; exact (con_dn c0).2.trans hc0; exact (con_dn c0).1.trans hc0)
  have HToU : Hid (∀ w, big = true → Calls Tryd.prog 18 #[.int .i32 (c0.toNat : Int)] w fun e w' => e = .returned (.int .i32 (r.toNat : Int)) ∧ w' = w) := by
    refine Lib.hid (fun w hb => ?_)
    rw [← hr, hb]
    exact toUp_any c0 w ha0
  have HToL : Hid (∀ w, big = false → Calls Tryd.prog 19 #[.int .i32 (c0.toNat : Int)] w fun e w' => e = .returned (.int .i32 (r.toNat : Int)) ∧ w' = w) := by
    refine Lib.hid (fun w hb => ?_)
    rw [← hr, hb]
    exact toLow_any c0 w ha0
  clear hr hfu hZ hd0 hdr hc0
  have hP1 : PTab (w.alloc (.cells #[.pointer none, .slice none 0 0] 30)) := hP.below ((Below.refl _ w).alloc (Nat.le_refl _) _)
  have hB0 := fresh_isB w
  have hbw0 : Below w.heap.size w (w.alloc (.cells #[.pointer none, .slice none 0 0] 30)) := (Below.refl _ w).alloc (Nat.le_refl _) _
  have hcr : conB r = false := HCR.out
  have HCr0 := Lib.hid (fun w => hcr ▸ isCon_any r w HCr.out)
  clear hcr
  by_cases hq : s.size = 1
  · have hq0 : (((s.size - 1 : Nat) : Int) == 0) = true := by rw [hq]; rfl
    have hZ1 : Hid (Z = [r]) := by
      have h0 : t0 = [] := List.eq_nil_of_length_eq_zero (by rw [← HT1.out, ← Lib.size_eq]; omega)
      exact Lib.hid (by rw [← HZ.out, h0]; rfl)
    clear hq
    have hpn : 0 < s.size := by omega
    cases big
    all_goals
      first | have HTo := Lib.hid (fun w => HToU.out w rfl) | have HTo := Lib.hid (fun w => HToL.out w rfl)
      clear HToU HToL
      go_enter Tryd.func14, Tryd.ntmps14
      go_wp2
      refine wp_loop_rounds 1 ?_
      rw [rounds_succ]
      go_wp2_with (go_at_call 15; (with_reducible refine (HDc.out _).mono ?_); rintro e w1 ⟨rfl, rfl⟩; dsimp only)
      go_wp2_with (go_at_call 16; (with_reducible refine (HC0.out _).mono ?_); rintro e w1 ⟨rfl, rfl⟩; dsimp only)
      go_wp2_with (go_at_call 17; (with_reducible refine (HU0.out _ hP1).mono ?_); rintro e w1 ⟨rfl, rfl⟩; dsimp only)
      go_wp2_with (first | (go_at_call 18; (with_reducible refine (HTo.out _).mono ?_); rintro e w1 ⟨rfl, rfl⟩; dsimp only) | (go_at_call 19; (with_reducible refine (HTo.out _).mono ?_); rintro e w1 ⟨rfl, rfl⟩; dsimp only))
      go_wp2_with (go_at_call 16; (with_reducible refine (HCr0.out _).mono ?_); rintro e w1 ⟨rfl, rfl⟩; dsimp only)
      go_wp2_with (go_at_call 20; (with_reducible refine (write_one w.heap.size [] r _ har hB0 (by simp)).mono ?_); rintro e w1 ⟨rfl, hB1, hb1⟩; dsimp only)
      go_wp2_with (go_at_call 21; (with_reducible refine (string_any _ _ _ hB1).mono ?_); rintro e w1 ⟨rfl, -, hb3, -⟩; dsimp only)
      go_wp2
      go_ret
      exact ⟨ret_str (by rw [hZ1.out]; rfl), (hbw0.trans hb1).trans hb3⟩
  · have hq0 : (((s.size - 1 : Nat) : Int) == 0) = false := by rw [beq_eq_false_iff_ne]; omega
    have hpn : 0 < s.size := by omega
    clear hq
    cases big
    all_goals
      first | have HTo := Lib.hid (fun w => HToU.out w rfl) | have HTo := Lib.hid (fun w => HToL.out w rfl)
      clear HToU HToL
      go_enter Tryd.func14, Tryd.ntmps14
      go_wp2
      refine wp_loop_rounds 1 ?_
      rw [rounds_succ]
      go_wp2_with (go_at_call 15; (with_reducible refine (HDc.out _).mono ?_); rintro e w1 ⟨rfl, rfl⟩; dsimp only)
      go_wp2_with (go_at_call 16; (with_reducible refine (HC0.out _).mono ?_); rintro e w1 ⟨rfl, rfl⟩; dsimp only)
      go_wp2_with (go_at_call 17; (with_reducible refine (HU0.out _ hP1).mono ?_); rintro e w1 ⟨rfl, rfl⟩; dsimp only)
      go_wp2_with (first | (go_at_call 18; (with_reducible refine (HTo.out _).mono ?_); rintro e w1 ⟨rfl, rfl⟩; dsimp only) | (go_at_call 19; (with_reducible refine (HTo.out _).mono ?_); rintro e w1 ⟨rfl, rfl⟩; dsimp only))
      go_loopw [0, 6, 7] (fun str vfu vr wr => ∃ (t : ByteArray) (r : UInt8) (fu : Bool) (O : List UInt8), str = .string t ∧ vfu = .bool fu ∧ vr = .int .i32 (r.toNat : Int) ∧ O ++ camel r fu t.data.toList = Z ∧ domB r = true ∧ (∀ b ∈ t.data.toList, domB b = true) ∧ O.length + t.size ≤ s.size ∧ IsB w.heap.size O wr ∧ Below w.heap.size w wr) (fun str _ _ _ => match str with | .string t => t.size | _ => 0)
      case atStart =>
        have e1 : (s.extract 1 s.size).data.toList = t0 := by rw [HS1.out]; exact HT1.out
        refine ⟨_, r, fu, [], rfl, rfl, rfl, by rw [e1]; exact HZ.out, HCr.out, by rw [e1]; exact fun b hb => HD.out b (List.mem_cons_of_mem _ hb), ?_, hB0, hbw0⟩
        rw [HS1.out]; simp; omega
      case round =>
        clear hP1 hB0 hbw0 HCr0 HCR har HCr HZ HTo HU0 HC0 HDc
        obtain ⟨t, r, fu, O, rfl, rfl, rfl, hO, hdr, hdt, hln, hB, hbw⟩ := hrel
        have hPr := hP.below hbw
        have har := dom_asc r hdr
        have HDR := Lib.hid hdr
        have HCr := Lib.hid (fun w => isCon_any r w hdr)
        have HO := Lib.hid hO
        have HDT := Lib.hid hdt
        clear hO hdr hdt
        by_cases ht0 : 0 < t.size
        · have htz : (0 : Int) < (t.size : Int) := by omega
          obtain ⟨c, xs, hx⟩ : ∃ x xs, t.data.toList = x :: xs := by
            cases h : t.data.toList with
            | nil => exact absurd h (ne_of_pos ht0)
            | cons x xs => exact ⟨x, xs, rfl⟩
          have hdc := HDT.out c (by rw [hx]; simp)
          have hac := dom_asc c hdc
          have HDx : Hid (∀ b ∈ xs, domB b = true) := Lib.hid (fun b hb => HDT.out b (by rw [hx]; simp [hb]))
          have HST := Lib.hid (camel_step O r c fu xs Z (by rw [← hx]; exact HO.out))
          have HRS := Lib.hid (tail_of t c xs hx)
          have HDc := Lib.hid (fun w => dec_asc t c xs w hx hac)
          have HCc := Lib.hid (fun w => isCon_any c w hdc)
          have HUc := Lib.hid (fun w h => isUp_any c w hac h)
          have HTU := Lib.hid (fun w => toUp_any c w hac)
          have HTL := Lib.hid (fun w => toLow_any c w hac)
          have HUD := Lib.hid (dom_up c hdc)
          have HDC := Lib.hid hdc
          have hl : O.length + 4 ≤ 140737488355328 := by omega
          have HWr := Lib.hid (fun (w' : World) (h : IsB w.heap.size O w') => write_one w.heap.size O r w' har h hl)
          clear hx hdc HO HDT
          cases hcr : conB r
          · cases hcc : conB c
            · rw [hcr] at HCr
              rw [hcc] at HCc
              have HS3 := Lib.hid (fun h h' => HST.out.2.2.1 hcr h h')
              have HS4 := Lib.hid (fun h => HST.out.2.2.2 hcr h)
              clear hcr hcc
              cases fu
              · go_wp2_with (go_at_call 15; (with_reducible refine (HDc.out _).mono ?_); rintro e w1 ⟨rfl, rfl⟩; dsimp only)
                go_wp2_with (go_at_call 16; (with_reducible refine (HCc.out _).mono ?_); rintro e w1 ⟨rfl, rfl⟩; dsimp only)
                go_wp2_with (go_at_call 16; (with_reducible refine (HCr.out _).mono ?_); rintro e w1 ⟨rfl, rfl⟩; dsimp only)
                go_wp2_with (go_at_call 20; (with_reducible refine (HWr.out _ hB).mono ?_); rintro e w1 ⟨rfl, hB1, hb1⟩; dsimp only)
                go_roundw
                case rel =>
                  refine ⟨_, c, false, O ++ [r], rfl, rfl, rfl, by rw [HRS.out.1]; exact HS4.out rfl, HDC.out, by rw [HRS.out.1]; exact HDx.out, ?_, hB1, hbw.trans hb1⟩
                  have hrs := HRS.out.2
                  rw [hrs]; simp; omega
                case measure =>
                  have hrs := HRS.out.2
                  simp only [hrs]
                  omega
              · cases hup : capB c
                · rw [hup] at HUc
                  have HS := Lib.hid (HS4.out (by rw [hup]; rfl))
                  clear hup
                  go_wp2_with (go_at_call 15; (with_reducible refine (HDc.out _).mono ?_); rintro e w1 ⟨rfl, rfl⟩; dsimp only)
                  go_wp2_with (go_at_call 16; (with_reducible refine (HCc.out _).mono ?_); rintro e w1 ⟨rfl, rfl⟩; dsimp only)
                  go_wp2_with (go_at_call 16; (with_reducible refine (HCr.out _).mono ?_); rintro e w1 ⟨rfl, rfl⟩; dsimp only)
                  go_wp2_with (go_at_call 17; (with_reducible refine (HUc.out _ hPr).mono ?_); rintro e w1 ⟨rfl, rfl⟩; dsimp only)
                  go_wp2_with (go_at_call 20; (with_reducible refine (HWr.out _ hB).mono ?_); rintro e w1 ⟨rfl, hB1, hb1⟩; dsimp only)
                  go_roundw
                  case rel =>
                    refine ⟨_, c, false, O ++ [r], rfl, rfl, rfl, by rw [HRS.out.1]; exact HS.out, HDC.out, by rw [HRS.out.1]; exact HDx.out, ?_, hB1, hbw.trans hb1⟩
                    have hrs := HRS.out.2
                    rw [hrs]; simp; omega
                  case measure =>
                    have hrs := HRS.out.2
                    simp only [hrs]
                    omega
                · rw [hup] at HUc
                  have HS := Lib.hid (HS3.out rfl hup)
                  clear hup
                  go_wp2_with (go_at_call 15; (with_reducible refine (HDc.out _).mono ?_); rintro e w1 ⟨rfl, rfl⟩; dsimp only)
                  go_wp2_with (go_at_call 16; (with_reducible refine (HCc.out _).mono ?_); rintro e w1 ⟨rfl, rfl⟩; dsimp only)
                  go_wp2_with (go_at_call 16; (with_reducible refine (HCr.out _).mono ?_); rintro e w1 ⟨rfl, rfl⟩; dsimp only)
                  go_wp2_with (go_at_call 17; (with_reducible refine (HUc.out _ hPr).mono ?_); rintro e w1 ⟨rfl, rfl⟩; dsimp only)
                  go_wp2_with (go_at_call 19; (with_reducible refine (HTL.out _).mono ?_); rintro e w1 ⟨rfl, rfl⟩; dsimp only)
                  go_wp2_with (go_at_call 20; (with_reducible refine (HWr.out _ hB).mono ?_); rintro e w1 ⟨rfl, hB1, hb1⟩; dsimp only)
                  go_roundw
                  case rel =>
                    refine ⟨_, dnB c, true, O ++ [r], rfl, rfl, rfl, by rw [HRS.out.1]; exact HS.out, HUD.out.2, by rw [HRS.out.1]; exact HDx.out, ?_, hB1, hbw.trans hb1⟩
                    have hrs := HRS.out.2
                    rw [hrs]; simp; omega
                  case measure =>
                    have hrs := HRS.out.2
                    simp only [hrs]
                    omega
            · rw [hcr] at HCr
              rw [hcc] at HCc
              have HS3 := Lib.hid (fun h h' => HST.out.2.2.1 hcr h h')
              have HS4 := Lib.hid (fun h => HST.out.2.2.2 hcr h)
              clear hcr hcc
              cases fu
              · go_wp2_with (go_at_call 15; (with_reducible refine (HDc.out _).mono ?_); rintro e w1 ⟨rfl, rfl⟩; dsimp only)
                go_wp2_with (go_at_call 16; (with_reducible refine (HCc.out _).mono ?_); rintro e w1 ⟨rfl, rfl⟩; dsimp only)
                go_wp2_with (go_at_call 16; (with_reducible refine (HCr.out _).mono ?_); rintro e w1 ⟨rfl, rfl⟩; dsimp only)
                go_wp2_with (go_at_call 16; (with_reducible refine (HCr.out _).mono ?_); rintro e w1 ⟨rfl, rfl⟩; dsimp only)
                go_wp2_with (go_at_call 20; (with_reducible refine (HWr.out _ hB).mono ?_); rintro e w1 ⟨rfl, hB1, hb1⟩; dsimp only)
                go_roundw
                case rel =>
                  refine ⟨_, c, false, O ++ [r], rfl, rfl, rfl, by rw [HRS.out.1]; exact HS4.out rfl, HDC.out, by rw [HRS.out.1]; exact HDx.out, ?_, hB1, hbw.trans hb1⟩
                  have hrs := HRS.out.2
                  rw [hrs]; simp; omega
                case measure =>
                  have hrs := HRS.out.2
                  simp only [hrs]
                  omega
              · cases hup : capB c
                · rw [hup] at HUc
                  have HS := Lib.hid (HS4.out (by rw [hup]; rfl))
                  clear hup
                  go_wp2_with (go_at_call 15; (with_reducible refine (HDc.out _).mono ?_); rintro e w1 ⟨rfl, rfl⟩; dsimp only)
                  go_wp2_with (go_at_call 16; (with_reducible refine (HCc.out _).mono ?_); rintro e w1 ⟨rfl, rfl⟩; dsimp only)
                  go_wp2_with (go_at_call 16; (with_reducible refine (HCr.out _).mono ?_); rintro e w1 ⟨rfl, rfl⟩; dsimp only)
                  go_wp2_with (go_at_call 16; (with_reducible refine (HCr.out _).mono ?_); rintro e w1 ⟨rfl, rfl⟩; dsimp only)
                  go_wp2_with (go_at_call 17; (with_reducible refine (HUc.out _ hPr).mono ?_); rintro e w1 ⟨rfl, rfl⟩; dsimp only)
                  go_wp2_with (go_at_call 20; (with_reducible refine (HWr.out _ hB).mono ?_); rintro e w1 ⟨rfl, hB1, hb1⟩; dsimp only)
                  go_roundw
                  case rel =>
                    refine ⟨_, c, false, O ++ [r], rfl, rfl, rfl, by rw [HRS.out.1]; exact HS.out, HDC.out, by rw [HRS.out.1]; exact HDx.out, ?_, hB1, hbw.trans hb1⟩
                    have hrs := HRS.out.2
                    rw [hrs]; simp; omega
                  case measure =>
                    have hrs := HRS.out.2
                    simp only [hrs]
                    omega
                · rw [hup] at HUc
                  have HS := Lib.hid (HS3.out rfl hup)
                  clear hup
                  go_wp2_with (go_at_call 15; (with_reducible refine (HDc.out _).mono ?_); rintro e w1 ⟨rfl, rfl⟩; dsimp only)
                  go_wp2_with (go_at_call 16; (with_reducible refine (HCc.out _).mono ?_); rintro e w1 ⟨rfl, rfl⟩; dsimp only)
                  go_wp2_with (go_at_call 16; (with_reducible refine (HCr.out _).mono ?_); rintro e w1 ⟨rfl, rfl⟩; dsimp only)
                  go_wp2_with (go_at_call 16; (with_reducible refine (HCr.out _).mono ?_); rintro e w1 ⟨rfl, rfl⟩; dsimp only)
                  go_wp2_with (go_at_call 17; (with_reducible refine (HUc.out _ hPr).mono ?_); rintro e w1 ⟨rfl, rfl⟩; dsimp only)
                  go_wp2_with (go_at_call 19; (with_reducible refine (HTL.out _).mono ?_); rintro e w1 ⟨rfl, rfl⟩; dsimp only)
                  go_wp2_with (go_at_call 20; (with_reducible refine (HWr.out _ hB).mono ?_); rintro e w1 ⟨rfl, hB1, hb1⟩; dsimp only)
                  go_roundw
                  case rel =>
                    refine ⟨_, dnB c, true, O ++ [r], rfl, rfl, rfl, by rw [HRS.out.1]; exact HS.out, HUD.out.2, by rw [HRS.out.1]; exact HDx.out, ?_, hB1, hbw.trans hb1⟩
                    have hrs := HRS.out.2
                    rw [hrs]; simp; omega
                  case measure =>
                    have hrs := HRS.out.2
                    simp only [hrs]
                    omega
          · cases hcc : conB c
            · rw [hcr] at HCr
              rw [hcc] at HCc
              have HS := Lib.hid (HST.out.2.1 hcr hcc)
              obtain ⟨q, hq⟩ : ∃ q, capB c = q := ⟨_, rfl⟩
              rw [hq] at HUc HS
              clear hcr hcc hq
              go_wp2_with (go_at_call 15; (with_reducible refine (HDc.out _).mono ?_); rintro e w1 ⟨rfl, rfl⟩; dsimp only)
              go_wp2_with (go_at_call 16; (with_reducible refine (HCc.out _).mono ?_); rintro e w1 ⟨rfl, rfl⟩; dsimp only)
              go_wp2_with (go_at_call 16; (with_reducible refine (HCr.out _).mono ?_); rintro e w1 ⟨rfl, rfl⟩; dsimp only)
              go_wp2_with (go_at_call 17; (with_reducible refine (HUc.out _ hPr).mono ?_); rintro e w1 ⟨rfl, rfl⟩; dsimp only)
              go_wp2_with (go_at_call 18; (with_reducible refine (HTU.out _).mono ?_); rintro e w1 ⟨rfl, rfl⟩; dsimp only)
              go_roundw
              case rel =>
                refine ⟨_, upB c, q, O, rfl, rfl, rfl, by rw [HRS.out.1]; exact HS.out, HUD.out.1, by rw [HRS.out.1]; exact HDx.out, ?_, hB, hbw⟩
                have hrs := HRS.out.2
                rw [hrs]; simp; omega
              case measure =>
                have hrs := HRS.out.2
                simp only [hrs]
                omega
            · rw [hcr] at HCr
              rw [hcc] at HCc
              have HS := Lib.hid (HST.out.1 hcr hcc)
              clear hcr hcc
              go_wp2_with (go_at_call 15; (with_reducible refine (HDc.out _).mono ?_); rintro e w1 ⟨rfl, rfl⟩; dsimp only)
              go_wp2_with (go_at_call 16; (with_reducible refine (HCc.out _).mono ?_); rintro e w1 ⟨rfl, rfl⟩; dsimp only)
              go_wp2_with (go_at_call 16; (with_reducible refine (HCr.out _).mono ?_); rintro e w1 ⟨rfl, rfl⟩; dsimp only)
              go_wp2_with (go_at_call 20; (with_reducible refine (HWr.out _ hB).mono ?_); rintro e w1 ⟨rfl, hB1, hb1⟩; dsimp only)
              go_roundw
              case rel =>
                refine ⟨_, c, fu, O ++ [r], rfl, rfl, rfl, by rw [HRS.out.1]; exact HS.out, HDC.out, by rw [HRS.out.1]; exact HDx.out, ?_, hB1, hbw.trans hb1⟩
                have hrs := HRS.out.2
                rw [hrs]; simp; omega
              case measure =>
                have hrs := HRS.out.2
                simp only [hrs]
                omega
        · have htz : ¬ (0 : Int) < (t.size : Int) := by omega
          have hfin : Hid (O ++ [r] = Z) := by
            have h0 : t.data.toList = [] := List.eq_nil_of_length_eq_zero (by rw [← Lib.size_eq]; omega)
            exact Lib.hid (by rw [← HO.out, h0]; rfl)
          go_wp2_with (go_at_call 20; (with_reducible refine (write_one w.heap.size O r _ har hB (by omega)).mono ?_); rintro e w1 ⟨rfl, hB1, hb1⟩; dsimp only)
          go_wp2_with (go_at_call 21; (with_reducible refine (string_any _ _ _ hB1).mono ?_); rintro e w1 ⟨rfl, -, hb3, -⟩; dsimp only)
          go_wp2
          go_ret
          exact ⟨ret_str (by rw [← hfin.out]), (hbw.trans hb1).trans hb3⟩
end Go.Proofs.YtinchnmmemhfiaaDoor
