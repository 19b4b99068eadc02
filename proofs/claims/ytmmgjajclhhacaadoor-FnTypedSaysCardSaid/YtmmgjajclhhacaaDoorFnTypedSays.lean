/- The law FnTypedSays, walked. -/
import Derived.Test.YtmmgjajclhhacaaDoorTLong
set_option linter.unusedVariables false
namespace Go.Proofs.YtmmgjajclhhacaaDoor
open Go.RowKit Go.Maps

theorem iW_bd (is : Bool) (l : List UInt8) (d : Int) (h1 : -2147483648 ≤ d) (h2 : d ≤ 2147483647) : -2147483648 ≤ iW is (okN (Lib.parseIntB 32 l)) d ∧ iW is (okN (Lib.parseIntB 32 l)) d ≤ 2147483647 := by
  unfold iW
  cases is with
  | false => exact ⟨h1, h2⟩
  | true =>
    cases h : Lib.parseIntB 32 l with
    | ok u => have := Lib.parseIntB_bounds h; simp [okN]; omega
    | range => exact ⟨h1, h2⟩
    | _ => exact ⟨h1, h2⟩
theorem uW_bd (is : Bool) (l : List UInt8) (d : Int) (h1 : 0 ≤ d) (h2 : d ≤ 4294967295) : 0 ≤ uW is (okN (Lib.parseUintB 32 l)) d ∧ uW is (okN (Lib.parseUintB 32 l)) d ≤ 4294967295 := by
  unfold uW
  cases is with
  | false => exact ⟨h1, h2⟩
  | true =>
    cases h : Lib.parseUintB 32 l with
    | ok u => have := u32_le h; simp [okN]; omega
    | range => exact ⟨h1, h2⟩
    | _ => exact ⟨h1, h2⟩
theorem ascS_of {s : ByteArray} (h : ∀ b ∈ s.data.toList, b.toNat < 128) : AscS s := fun j b hj => h b (List.mem_of_getElem? hj)
theorem i64_wf {x : Int} (h : (Lit.int .i64 x).wf = true) : -9223372036854775808 ≤ x ∧ x ≤ 9223372036854775807 := by simpa [Lit.wf, IntKind.min, IntKind.max, IntKind.signed, IntKind.bits] using h
theorem u64_wf {x : Int} (h : (Lit.int .u64 x).wf = true) : 0 ≤ x ∧ x ≤ 18446744073709551615 := by simpa [Lit.wf, IntKind.min, IntKind.max, IntKind.signed, IntKind.bits] using h
set_option maxHeartbeats 8000000 in
set_option maxRecDepth 100000 in
theorem fnTypedSays_walk (s : ByteArray) (is df : Bool) (n u : Int) (w : World) (hs0 : s.size ≤ 140737488351232) (hn : (Lit.int .i64 n).wf = true) (hu : (Lit.int .u64 u).wf = true) (hE : ErrTab w) :
    Calls Tryd.prog 3 #[.string s, .bool is, .bool df, .int .i64 n, .int .u64 u] w fun e w' => e = .returned (.bool true) ∧ Below w.heap.size w w' := by
  have hn' := i64_wf hn
  have hu' := u64_wf hu
  clear hn hu
  by_cases ha : 2147483647 < s.size
  · have hza : (2147483647 : Int) < (s.size : Int) := by omega
    go_enter Tryd.func3, Tryd.ntmps3
    go_wp2
    go_ret
    exact ⟨rfl, Below.refl _ _⟩
  have hza : ¬ (2147483647 : Int) < (s.size : Int) := by omega
  have HX1 := Lib.hid (iBool_any true ⟨#[89, 101, 115]⟩ false w (by decide) (ascS_of (by decide)) true (by decide +kernel))
  have HX2 := Lib.hid (fun (w : World) (h : ErrTab w) => iI64_any true ⟨#[49, 50]⟩ 3 w (by decide) h)
  rw [show iW true (okN (Lib.parseIntB 64 (⟨#[49, 50]⟩ : ByteArray).data.toList)) 3 = 12 by decide +kernel] at HX2
  have HE := Lib.hid hE
  clear hE
  by_cases hl : 4096 < s.size
  · have HL := Lib.hid (fun w => long_yes s w hl)
    clear hl ha
    go_enter Tryd.func3, Tryd.ntmps3
    go_wp2_with (go_at_call 4; (with_reducible refine HX1.out.mono ?_); rintro e w1 ⟨rfl, hb1⟩; dsimp only)
    have HE1 := Lib.hid (HE.out.below hb1)
    have HB1 := Lib.hid hb1
    clear hb1
    go_wp2_with (go_at_call 5; (with_reducible refine (HX2.out _ HE1.out).mono ?_); rintro e w2 ⟨rfl, hb2⟩; dsimp only)
    have HB2 := Lib.hid (bthen HB1.out hb2)
    clear hb2
    go_wp2_with (go_at_call 6; (with_reducible refine (HL.out _).mono ?_); rintro e w3 ⟨rfl, rfl⟩; dsimp only)
    go_wp2
    go_ret
    exact ⟨rfl, HB2.out⟩
  have HL := Lib.hid (fun w => long_no s w hl)
  have HP := Lib.hid (fun w => plain_any s w (by omega))
  obtain ⟨pb, hpb⟩ : ∃ pb, (decide (∀ b ∈ s.data.toList, b.toNat < 128) && decide (s.size ≤ 4096)) = pb := ⟨_, rfl⟩
  rw [hpb] at HP
  cases pb with
  | false =>
    clear hpb hl ha
    go_enter Tryd.func3, Tryd.ntmps3
    go_wp2_with (go_at_call 4; (with_reducible refine HX1.out.mono ?_); rintro e w1 ⟨rfl, hb1⟩; dsimp only)
    have HE1 := Lib.hid (HE.out.below hb1)
    have HB1 := Lib.hid hb1
    clear hb1
    go_wp2_with (go_at_call 5; (with_reducible refine (HX2.out _ HE1.out).mono ?_); rintro e w2 ⟨rfl, hb2⟩; dsimp only)
    have HB2 := Lib.hid (bthen HB1.out hb2)
    clear hb2
    go_wp2_with (go_at_call 6; (with_reducible refine (HL.out _).mono ?_); rintro e w3 ⟨rfl, rfl⟩; dsimp only)
    go_wp2_with (go_at_call 7; (with_reducible refine (HP.out _).mono ?_); rintro e w4 ⟨rfl, rfl⟩; dsimp only)
    go_wp2
    go_ret
    exact ⟨rfl, HB2.out⟩
  | true =>
    have hasc : AscS s := ascS_of (of_decide_eq_true (Bool.and_eq_true_iff.1 hpb).1)
    have hs1 : s.size ≤ 1000000 := by omega
    obtain ⟨R1, hR1⟩ : ∃ R1, (if is then boolX (lowX s) else df) = R1 := ⟨_, rfl⟩
    have A1 := Lib.hid (fun w => iBool_any is s df w hs1 hasc R1 hR1)
    have B1 := Lib.hid (fun w => sBool_any is s df w hs1 R1 hR1)
    obtain ⟨R2, hR2⟩ : ∃ R2, iW is (okN (Lib.parseIntB 64 s.data.toList)) n = R2 := ⟨_, rfl⟩
    have A2 := Lib.hid (fun (w : World) (h : ErrTab w) => iI64_any is s n w hs1 h)
    rw [hR2] at A2
    have B2 := Lib.hid (fun w => sI64_any is s n R2 w (by omega) (by rw [← okN_I 64 (by decide) (by decide)]; exact hR2))
    obtain ⟨m, hm⟩ : ∃ m, IntKind.i32.wrap n = m := ⟨_, rfl⟩
    have hmb : -2147483648 ≤ m ∧ m ≤ 2147483647 := by rw [← hm, IntKind.wrap_i32]; omega
    have hm2 : IntKind.i64.wrap m = m := by rw [IntKind.wrap_i64]; omega
    have hbd3 := iW_bd is s.data.toList m hmb.1 hmb.2
    obtain ⟨R3, hR3⟩ : ∃ R3, iW is (okN (Lib.parseIntB 32 s.data.toList)) m = R3 := ⟨_, rfl⟩
    have A3 := Lib.hid (fun (w : World) (h : ErrTab w) => iI32_any is s m w hs1 h)
    rw [hR3] at A3 hbd3
    have B3 := Lib.hid (fun w => sI32_any is s m R3 w (by omega) (by rw [← okN_I 32 (by decide) (by decide)]; exact hR3))
    have hw3 : IntKind.i32.wrap R3 = R3 := by rw [IntKind.wrap_i32]; omega
    obtain ⟨R4, hR4⟩ : ∃ R4, uW is (okN (Lib.parseUintB 64 s.data.toList)) u = R4 := ⟨_, rfl⟩
    have A4 := Lib.hid (fun (w : World) (h : ErrTab w) => iU64_any is s u w hs1 h)
    rw [hR4] at A4
    have B4 := Lib.hid (fun w => sU64_any is s u w (by omega) R4 (by rw [← okN_B 64 (by decide)]; exact hR4))
    obtain ⟨k, hk⟩ : ∃ k, IntKind.u32.wrap u = k := ⟨_, rfl⟩
    have hkb : 0 ≤ k ∧ k ≤ 4294967295 := by rw [← hk, IntKind.wrap_u32]; omega
    have hk2 : IntKind.u64.wrap k = k := by rw [IntKind.wrap_u64]; omega
    have hbd5 := uW_bd is s.data.toList k hkb.1 hkb.2
    obtain ⟨R5, hR5⟩ : ∃ R5, uW is (okN (Lib.parseUintB 32 s.data.toList)) k = R5 := ⟨_, rfl⟩
    have A5 := Lib.hid (fun (w : World) (h : ErrTab w) => iU32_any is s k w hs1 h)
    rw [hR5] at A5 hbd5
    have B5 := Lib.hid (fun w => sU32_any is s k w (by omega) R5 (by rw [← okN_B 32 (by decide)]; exact hR5))
    have hw5 : IntKind.u32.wrap R5 = R5 := by rw [IntKind.wrap_u32]; omega
    obtain ⟨R6, hR6⟩ : ∃ R6, (if is then s else (⟨#[100]⟩ : ByteArray)) = R6 := ⟨_, rfl⟩
    have A6 := Lib.hid (fun w => iStr_any is s ⟨#[100]⟩ w hs1 R6 hR6)
    have B6 := Lib.hid (fun w => sStr_any is s ⟨#[100]⟩ w)
    rw [hR6] at B6
    clear hpb hl ha hasc hR1 hR2 hR3 hR4 hR5 hR6 hbd3 hbd5 hmb hkb hs1 hs0
    have HM := Lib.hid hm
    have HK := Lib.hid hk
    go_enter Tryd.func3, Tryd.ntmps3
    go_wp2_with (go_at_call 4; (with_reducible refine HX1.out.mono ?_); rintro e w1 ⟨rfl, hb1⟩; dsimp only)
    have HE1 := Lib.hid (HE.out.below hb1)
    have HB1 := Lib.hid hb1
    clear hb1
    go_wp2_with (go_at_call 5; (with_reducible refine (HX2.out _ HE1.out).mono ?_); rintro e w2 ⟨rfl, hb2⟩; dsimp only)
    have HB2 := Lib.hid (bthen HB1.out hb2)
    clear hb2
    go_wp2_with (go_at_call 6; (with_reducible refine (HL.out _).mono ?_); rintro e w3 ⟨rfl, rfl⟩; dsimp only)
    go_wp2_with (go_at_call 7; (with_reducible refine (HP.out _).mono ?_); rintro e w4 ⟨rfl, rfl⟩; dsimp only)
    go_wp2_with (go_at_call 4; (with_reducible refine (A1.out _).mono ?_); rintro e w5 ⟨rfl, hb5⟩; dsimp only)
    have HB5 := Lib.hid (bthen HB2.out hb5)
    clear hb5
    go_wp2_with (go_at_call 8; (with_reducible refine (B1.out _).mono ?_); rintro e w6 ⟨rfl, hb6⟩; dsimp only)
    have HB6 := Lib.hid (bthen HB5.out hb6)
    have HE6 := Lib.hid (HE.out.below HB6.out)
    clear hb6
    go_wp2_with (go_at_call 5; (with_reducible refine (A2.out _ HE6.out).mono ?_); rintro e w7 ⟨rfl, hb7⟩; dsimp only)
    have HB7 := Lib.hid (bthen HB6.out hb7)
    clear hb7
    go_wp2_with (go_at_call 9; (with_reducible refine (B2.out _).mono ?_); rintro e w8 ⟨rfl, hb8⟩; dsimp only)
    have HB8 := Lib.hid (bthen HB7.out hb8)
    have HE8 := Lib.hid (HE.out.below HB8.out)
    clear hb8
    go_wp2_with (go_at_call 10; (with_reducible refine (A3.out _ HE8.out).mono ?_); rintro e w9 ⟨rfl, hb9⟩; dsimp only)
    have HB9 := Lib.hid (bthen HB8.out hb9)
    clear hb9
    go_wp2_with (go_at_call 9; (with_reducible refine (B3.out _).mono ?_); rintro e wa ⟨rfl, hba⟩; dsimp only)
    have HBA := Lib.hid (bthen HB9.out hba)
    have HEA := Lib.hid (HE.out.below HBA.out)
    clear hba
    go_wp2_with (go_at_call 11; (with_reducible refine (A4.out _ HEA.out).mono ?_); rintro e wb ⟨rfl, hbb⟩; dsimp only)
    have HBB := Lib.hid (bthen HBA.out hbb)
    have HEB := Lib.hid (HE.out.below HBB.out)
    clear hbb
    go_wp2_with (go_at_call 12; (with_reducible refine (B4.out _).mono ?_); rintro e wc ⟨rfl, rfl⟩; dsimp only)
    go_wp2_with (go_at_call 13; (with_reducible refine (A5.out _ HEB.out).mono ?_); rintro e wd ⟨rfl, hbd⟩; dsimp only)
    have HBD := Lib.hid (bthen HBB.out hbd)
    clear hbd
    go_wp2_with (go_at_call 12; (with_reducible refine (B5.out _).mono ?_); rintro e we ⟨rfl, rfl⟩; dsimp only)
    go_wp2_with (go_at_call 14; (with_reducible refine (A6.out _).mono ?_); rintro e wf ⟨rfl, hbf⟩; dsimp only)
    have HBF := Lib.hid (bthen HBD.out hbf)
    clear hbf
    go_wp2_with (go_at_call 15; (with_reducible refine (B6.out _).mono ?_); rintro e wg ⟨rfl, rfl⟩; dsimp only)
    go_wp2
    go_ret
    exact ⟨rfl, HBF.out⟩
end Go.Proofs.YtmmgjajclhhacaaDoor
