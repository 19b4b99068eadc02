/- The walk of the law FnCenterRoads. -/
import Derived.Test.YtobcoplfniojkaaDoorPadLaw
namespace Go.Proofs.YtobcoplfniojkaaDoor
open Go.RowKit Plain

theorem i64_bd {x : Int} (h : (Lit.int .i64 x).wf = true) : -9223372036854775808 ≤ x ∧ x ≤ 9223372036854775807 := by simpa [Lit.wf, IntKind.min, IntKind.max, IntKind.signed, IntKind.bits] using h
theorem vld_ok2 {s : ByteArray} (h : vld s = true) : s.size ≤ 4096 ∧ Lib.validD s.data.toList = true := by simpa [vld] using h
set_option maxRecDepth 100000 in
theorem wide_any (n : Int) (w : World) : Calls Tryd.prog 20 #[.int .i64 n] w fun e w' => e = .returned (.bool (decide (2000 < n))) ∧ w' = w := by
  go_enter Tryd.func20, Tryd.ntmps20
  go_wp2
  go_ret
  exact ⟨rfl, rfl⟩
theorem center_hello : (⟨(centerB (⟨#[104, 101, 108, 108, 111]⟩ : ByteArray).data.toList (⟨#[32]⟩ : ByteArray).data.toList 10).toArray⟩ : ByteArray) = ⟨#[32, 32, 104, 101, 108, 108, 111, 32, 32, 32]⟩ := by decide +kernel
theorem hello_any (w : World) (hT : Tabs w) : Calls Tryd.prog 24 #[.string ⟨#[104, 101, 108, 108, 111]⟩, .int .i64 10, .string ⟨#[32]⟩] w fun e w' => e = .returned (.string ⟨#[32, 32, 104, 101, 108, 108, 111, 32, 32, 32]⟩) ∧ Below w.heap.size w w' := by
  have := implCenter_any ⟨#[104, 101, 108, 108, 111]⟩ 10 ⟨#[32]⟩ w (by decide) (by decide) (by decide) (by decide) hT
  rwa [center_hello] at this

set_option maxHeartbeats 2000000 in
set_option maxRecDepth 100000 in
theorem fnCenterRoads_early (s : ByteArray) (n : Int) (p : ByteArray) (w : World) (hT : Tabs w) (h : 2147483647 < s.size ∨ 2147483647 < p.size ∨ vld s = false ∨ vld p = false ∨ 2000 < n) :
    Calls Tryd.prog 10 #[.string s, .int .i64 n, .string p] w fun e w' => e = .returned (.bool true) ∧ Below w.heap.size w w' := by
  by_cases hb : 2147483647 < s.size
  · have hbz : (2147483647 : Int) < (s.size : Int) := by omega
    go_enter Tryd.func10, Tryd.ntmps10
    go_wp2
    go_ret
    exact ⟨rfl, Below.refl _ _⟩
  by_cases hb' : 2147483647 < p.size
  · have hbz : ¬ (2147483647 : Int) < (s.size : Int) := by omega
    have hby : (2147483647 : Int) < (p.size : Int) := by omega
    go_enter Tryd.func10, Tryd.ntmps10
    go_wp2
    go_ret
    exact ⟨rfl, Below.refl _ _⟩
  have hbz : ¬ (2147483647 : Int) < (s.size : Int) := by omega
  have hby : ¬ (2147483647 : Int) < (p.size : Int) := by omega
  cases hv : vld s with
  | false =>
    have cV : ∀ w, Tabs w → Calls Tryd.prog 12 #[.string s] w fun e w' => e = .returned (.bool false) ∧ Below w.heap.size w w' := fun w hT => hv ▸ valid_any s w (by omega) hT
    have HV := Lib.hid cV
    clear cV hv h
    go_enter Tryd.func10, Tryd.ntmps10
    go_wp2_with (go_at_call 24; (with_reducible refine (hello_any _ hT).mono ?_); rintro e w1 ⟨rfl, hb1⟩)
    have hT1 := hT.below hb1
    go_wp2_with (go_at_call 12; (with_reducible refine (HV.out _ hT1).mono ?_); rintro e w2 ⟨rfl, hb2⟩)
    go_ret
    exact ⟨rfl, bthen hb1 hb2⟩
  | true =>
    have cV : ∀ w, Tabs w → Calls Tryd.prog 12 #[.string s] w fun e w' => e = .returned (.bool true) ∧ Below w.heap.size w w' := fun w hT => hv ▸ valid_any s w (by omega) hT
    cases hv2 : vld p with
    | false =>
      have cU : ∀ w, Tabs w → Calls Tryd.prog 12 #[.string p] w fun e w' => e = .returned (.bool false) ∧ Below w.heap.size w w' := fun w hT => hv2 ▸ valid_any p w (by omega) hT
      have HV := Lib.hid cV
      have HU := Lib.hid cU
      clear cV cU hv hv2 h
      go_enter Tryd.func10, Tryd.ntmps10
      go_wp2_with (go_at_call 24; (with_reducible refine (hello_any _ hT).mono ?_); rintro e w1 ⟨rfl, hb1⟩)
      have hT1 := hT.below hb1
      go_wp2_with (go_at_call 12; (with_reducible refine (HV.out _ hT1).mono ?_); rintro e w2 ⟨rfl, hb2⟩)
      have hT2 := hT1.below hb2
      go_wp2_with (go_at_call 12; (with_reducible refine (HU.out _ hT2).mono ?_); rintro e w3 ⟨rfl, hb3⟩)
      go_ret
      exact ⟨rfl, bthen (bthen hb1 hb2) hb3⟩
    | true =>
      have cU : ∀ w, Tabs w → Calls Tryd.prog 12 #[.string p] w fun e w' => e = .returned (.bool true) ∧ Below w.heap.size w w' := fun w hT => hv2 ▸ valid_any p w (by omega) hT
      have hn : 2000 < n := by
        rcases h with h | h | h | h | h
        · exact absurd h hb
        · exact absurd h hb'
        · rw [hv] at h; cases h
        · rw [hv2] at h; cases h
        · exact h
      have cW := fun w => wide_any n w
      rw [show decide (2000 < n) = true by simp [hn]] at cW
      have HV := Lib.hid cV
      have HU := Lib.hid cU
      have HW := Lib.hid cW
      clear cV cU cW hv hv2 h
      go_enter Tryd.func10, Tryd.ntmps10
      go_wp2_with (go_at_call 24; (with_reducible refine (hello_any _ hT).mono ?_); rintro e w1 ⟨rfl, hb1⟩)
      have hT1 := hT.below hb1
      go_wp2_with (go_at_call 12; (with_reducible refine (HV.out _ hT1).mono ?_); rintro e w2 ⟨rfl, hb2⟩)
      have hT2 := hT1.below hb2
      go_wp2_with (go_at_call 12; (with_reducible refine (HU.out _ hT2).mono ?_); rintro e w3 ⟨rfl, hb3⟩)
      go_wp2_with (go_at_call 20; (with_reducible refine (HW.out _).mono ?_); rintro e w4 ⟨rfl, rfl⟩)
      go_ret
      exact ⟨rfl, bthen (bthen hb1 hb2) hb3⟩

set_option maxHeartbeats 4000000 in
set_option maxRecDepth 100000 in
theorem fnCenterRoads_good (s : ByteArray) (n : Int) (p : ByteArray) (w : World) (hn : n ≤ 2000) (hn0 : -9223372036854775808 ≤ n) (hT : Tabs w) (hv : vld s = true) (hv2 : vld p = true) :
    Calls Tryd.prog 10 #[.string s, .int .i64 n, .string p] w fun e w' => e = .returned (.bool true) ∧ Below w.heap.size w w' := by
  have hle := (vld_ok2 hv).1
  have hle2 := (vld_ok2 hv2).1
  have hbz : ¬ (2147483647 : Int) < (s.size : Int) := by omega
  have hby : ¬ (2147483647 : Int) < (p.size : Int) := by omega
  have cV : ∀ w, Tabs w → Calls Tryd.prog 12 #[.string s] w fun e w' => e = .returned (.bool true) ∧ Below w.heap.size w w' := fun w hT => hv ▸ valid_any s w (by omega) hT
  have cU : ∀ w, Tabs w → Calls Tryd.prog 12 #[.string p] w fun e w' => e = .returned (.bool true) ∧ Below w.heap.size w w' := fun w hT => hv2 ▸ valid_any p w (by omega) hT
  have cW := fun w => wide_any n w
  rw [show decide (2000 < n) = false by simp; omega] at cW
  have cL := fun w => len_any s w (by omega)
  have hsl := segs_le s
  obtain ⟨m, hm⟩ : ∃ m, (segs s.data.toList).length = m := ⟨_, rfl⟩
  rw [hm] at cL hsl
  obtain ⟨left, hl⟩ : ∃ left : Int, left = if (m : Int) < n then m + (n - m) / 2 else m := ⟨_, rfl⟩
  have hlaw := center_roads s.data.toList p.data.toList n left (vld_ok2 hv2).2 (by rw [hm]; exact hl)
  obtain ⟨X, hX⟩ : ∃ X : ByteArray, ⟨(rightB s.data.toList p.data.toList left).toArray⟩ = X := ⟨_, rfl⟩
  have hX2 : X.data.toList = rightB s.data.toList p.data.toList left := by rw [← hX]
  have hXs : X.size ≤ 2147483647 := by
    rw [Lib.size_eq, hX2]
    unfold rightB
    split
    · rw [← Lib.size_eq]; omega
    · have h1 := padOf_length (segs p.data.toList) (lack s.data.toList left)
      rw [segs_flatten, ← Lib.size_eq] at h1
      have h2 : lack s.data.toList left ≤ 2000 := by
        unfold lack
        rw [hm, hl]
        split <;> omega
      have h3 := Nat.div_le_self (lack s.data.toList left) (segs p.data.toList).length
      have h4 : (lack s.data.toList left / (segs p.data.toList).length + 1) * p.size ≤ 2001 * 4096 := Nat.mul_le_mul (by omega) hle2
      rw [List.length_append, ← Lib.size_eq s]
      omega
  obtain ⟨Z, hZ⟩ : ∃ Z : ByteArray, ⟨(centerB s.data.toList p.data.toList n).toArray⟩ = Z := ⟨_, rfl⟩
  have hleft : left ≤ 16384 ∧ -9223372036854775808 ≤ left := by rw [hl]; split <;> omega
  have cC : ∀ w, Tabs w → Calls Tryd.prog 24 #[.string s, .int .i64 n, .string p] w fun e w' => e = .returned (.string Z) ∧ Below w.heap.size w w' := fun w hT => hZ ▸ implCenter_any s n p w (by omega) (by omega) (by omega) hn0 hT
  have cR : ∀ w, Tabs w → Calls Tryd.prog 21 #[.string s, .int .i64 left, .string p] w fun e w' => e = .returned (.string X) ∧ Below w.heap.size w w' := fun w hT => hX ▸ implRightJustify_any s left p w (by omega) (by omega) (by omega) hleft.2 hT
  have cQ : ∀ w, Tabs w → Calls Tryd.prog 23 #[.string X, .int .i64 n, .string p] w fun e w' => e = .returned (.string Z) ∧ Below w.heap.size w w' := fun w hT => by
    have := implLeftJustify_any X n p w hXs (by omega) (by omega) hn0 hT
    rwa [hX2, hlaw, hZ] at this
  have HV := Lib.hid cV
  have HU := Lib.hid cU
  have HW := Lib.hid cW
  have HL := Lib.hid cL
  have HC := Lib.hid cC
  have HR := Lib.hid cR
  have HQ := Lib.hid cQ
  have hmb : m ≤ 4096 := by omega
  clear cV cU cW cL cC cR cQ hv hv2 hlaw hX hX2 hZ hm hsl hle hle2 hXs
  by_cases hmn : (m : Int) < n
  · rw [if_pos hmn] at hl
    obtain ⟨k, hk⟩ : ∃ k : Nat, n - (m : Int) = (k : Int) := ⟨(n - m).toNat, by omega⟩
    have hkb : k ≤ 2000 := by omega
    obtain ⟨h, hh⟩ : ∃ h, k / 2 = h := ⟨_, rfl⟩
    have hhb : h ≤ 2000 := by omega
    have hq : Int.tdiv (k : Int) 2 = (h : Int) := by rw [← hh]; rfl
    have hleq : (m : Int) + (h : Int) = left := by rw [hl]; omega
    clear hl hh
    go_enter Tryd.func10, Tryd.ntmps10
    go_wp2_with (go_at_call 24; (with_reducible refine (hello_any _ hT).mono ?_); rintro e w1 ⟨rfl, hb1⟩)
    have hT1 := hT.below hb1
    go_wp2_with (go_at_call 12; (with_reducible refine (HV.out _ hT1).mono ?_); rintro e w2 ⟨rfl, hb2⟩)
    have hT2 := hT1.below hb2
    go_wp2_with (go_at_call 12; (with_reducible refine (HU.out _ hT2).mono ?_); rintro e w3 ⟨rfl, hb3⟩)
    have hT3 := hT2.below hb3
    go_wp2_with (go_at_call 20; (with_reducible refine (HW.out _).mono ?_); rintro e w4 ⟨rfl, rfl⟩)
    go_wp2_with (go_at_call 13; (with_reducible refine (HL.out _).mono ?_); rintro e w5 ⟨rfl, hb5⟩)
    have hT5 := hT3.below hb5
    go_wp2_with (go_at_call 24; (with_reducible refine (HC.out _ hT5).mono ?_); rintro e w6 ⟨rfl, hb6⟩)
    have hT6 := hT5.below hb6
    go_wp2_with (go_at_call 21; (with_reducible refine (HR.out _ hT6).mono ?_); rintro e w7 ⟨rfl, hb7⟩)
    have hT7 := hT6.below hb7
    go_wp2_with (go_at_call 23; (with_reducible refine (HQ.out _ hT7).mono ?_); rintro e w8 ⟨rfl, hb8⟩)
    go_ret
    exact ⟨rfl, bthen (bthen (bthen (bthen (bthen (bthen hb1 hb2) hb3) hb5) hb6) hb7) hb8⟩
  · rw [if_neg hmn] at hl
    subst hl
    go_enter Tryd.func10, Tryd.ntmps10
    go_wp2_with (go_at_call 24; (with_reducible refine (hello_any _ hT).mono ?_); rintro e w1 ⟨rfl, hb1⟩)
    have hT1 := hT.below hb1
    go_wp2_with (go_at_call 12; (with_reducible refine (HV.out _ hT1).mono ?_); rintro e w2 ⟨rfl, hb2⟩)
    have hT2 := hT1.below hb2
    go_wp2_with (go_at_call 12; (with_reducible refine (HU.out _ hT2).mono ?_); rintro e w3 ⟨rfl, hb3⟩)
    have hT3 := hT2.below hb3
    go_wp2_with (go_at_call 20; (with_reducible refine (HW.out _).mono ?_); rintro e w4 ⟨rfl, rfl⟩)
    go_wp2_with (go_at_call 13; (with_reducible refine (HL.out _).mono ?_); rintro e w5 ⟨rfl, hb5⟩)
    have hT5 := hT3.below hb5
    go_wp2_with (go_at_call 24; (with_reducible refine (HC.out _ hT5).mono ?_); rintro e w6 ⟨rfl, hb6⟩)
    have hT6 := hT5.below hb6
    go_wp2_with (go_at_call 21; (with_reducible refine (HR.out _ hT6).mono ?_); rintro e w7 ⟨rfl, hb7⟩)
    have hT7 := hT6.below hb7
    go_wp2_with (go_at_call 23; (with_reducible refine (HQ.out _ hT7).mono ?_); rintro e w8 ⟨rfl, hb8⟩)
    go_ret
    exact ⟨rfl, bthen (bthen (bthen (bthen (bthen (bthen hb1 hb2) hb3) hb5) hb6) hb7) hb8⟩

theorem fnCenterRoads_walk (s : ByteArray) (n : Int) (p : ByteArray) (w : World) (_h1 : s.size ≤ 140737488351232) (h3 : (Lit.int .i64 n).wf = true) (_h2 : p.size ≤ 140737488351232) (hT : Tabs w) :
    Calls Tryd.prog 10 #[.string s, .int .i64 n, .string p] w fun e w' => e = .returned (.bool true) ∧ Below w.heap.size w w' := by
  have b1 := i64_bd h3
  by_cases h : 2147483647 < s.size ∨ 2147483647 < p.size ∨ vld s = false ∨ vld p = false ∨ 2000 < n
  · exact fnCenterRoads_early s n p w hT h
  · have hv : vld s = true := by
      cases hv : vld s with
      | true => rfl
      | false => exact absurd (.inr (.inr (.inl hv))) h
    have hv2 : vld p = true := by
      cases hv : vld p with
      | true => rfl
      | false => exact absurd (.inr (.inr (.inr (.inl hv)))) h
    exact fnCenterRoads_good s n p w (Int.not_lt.1 fun hn => h (.inr (.inr (.inr (.inr hn))))) b1.1 hT hv hv2
end Go.Proofs.YtobcoplfniojkaaDoor
