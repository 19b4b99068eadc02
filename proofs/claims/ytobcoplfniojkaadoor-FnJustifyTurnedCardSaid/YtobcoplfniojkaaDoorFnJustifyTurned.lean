/- The walk of the law FnJustifyTurned. -/
import Derived.Test.YtobcoplfniojkaaDoorFnCenterRoads
namespace Go.Proofs.YtobcoplfniojkaaDoor
open Go.RowKit Plain

theorem left_abc : (⟨(leftB (⟨#[97]⟩ : ByteArray).data.toList (⟨#[98, 99]⟩ : ByteArray).data.toList 3).toArray⟩ : ByteArray) = ⟨#[97, 98, 99]⟩ := by decide +kernel
theorem abc_any (w : World) (hT : Tabs w) : Calls Tryd.prog 23 #[.string ⟨#[97]⟩, .int .i64 3, .string ⟨#[98, 99]⟩] w fun e w' => e = .returned (.string ⟨#[97, 98, 99]⟩) ∧ Below w.heap.size w w' := by
  have := implLeftJustify_any ⟨#[97]⟩ 3 ⟨#[98, 99]⟩ w (by decide) (by decide) (by decide) (by decide) hT
  rwa [left_abc] at this

/-- a whole number of pads, turned round -/
theorem padOf_times (ps : List (List UInt8)) (h : 0 < ps.length) (t : Nat) : padP ps (t * ps.length) = (List.replicate t ps).flatten := by
  unfold padP
  rw [Nat.mul_div_cancel _ h, Nat.mul_mod_left, List.take_zero, List.append_nil]
theorem rep_reverse (ps : List (List UInt8)) (t : Nat) : ((List.replicate t ps).flatten).reverse = (List.replicate t ps.reverse).flatten := by
  rw [List.reverse_flatten, List.map_replicate, List.reverse_replicate]
theorem turned (s p : List UInt8) (t : Nat) (hs : Lib.validD s = true) (hp : Lib.validD p = true) (hp0 : p ≠ []) :
    revB (leftB s p (((segs s).length + t * (segs p).length : Nat) : Int)) = rightB (revB s) (revB p) (((segs s).length + t * (segs p).length : Nat) : Int) := by
  have hP := segs_good p hp
  have hN := segs_len_pos hp0
  have hrs := segs_revB s hs
  have hrp := segs_revB p hp
  have hrp0 : revB p ≠ [] := by
    intro e
    rw [e] at hrp
    have := congrArg List.length hrp
    rw [List.length_reverse] at this
    simp [segs_nil] at this
    omega
  have hrl : (segs (revB s)).length = (segs s).length := by rw [hrs, List.length_reverse]
  unfold leftB rightB
  by_cases h0 : t * (segs p).length = 0
  · rw [if_pos (.inl (by omega)), if_pos (.inl (by rw [hrl]; omega))]
  · rw [if_neg (by rintro (h | h); omega; exact hp0 h), if_neg (by rw [hrl]; rintro (h | h); omega; exact hrp0 h)]
    have l1 : lack s (((segs s).length + t * (segs p).length : Nat) : Int) = t * (segs p).length := by unfold lack; omega
    have l2 : lack (revB s) (((segs s).length + t * (segs p).length : Nat) : Int) = t * (segs p).length := by unfold lack; rw [hrl]; omega
    rw [l1, l2]
    have hrpl : (segs (revB p)).length = (segs p).length := by rw [hrp, List.length_reverse]
    rw [padOf_flat, padOf_flat, padOf_times _ hN, ← hrpl, padOf_times _ (by rw [hrpl]; exact hN), hrp]
    have hS := segs_good s hs
    have h1 : segs (s ++ (List.replicate t (segs p)).flatten.flatten) = segs s ++ (List.replicate t (segs p)).flatten := by
      rw [segs_append s _ hs]
      rw [segs_of_good]
      intro c hc
      obtain ⟨l, hl, hcl⟩ := List.mem_flatten.1 hc
      rw [(List.mem_replicate.1 hl).2] at hcl
      exact hP c hcl
    show (segs (s ++ (List.replicate t (segs p)).flatten.flatten)).reverse.flatten = _
    rw [h1, List.reverse_append, List.flatten_append, rep_reverse]
    rfl

set_option maxHeartbeats 2000000 in
set_option maxRecDepth 100000 in
theorem fnJustifyTurned_early (s : ByteArray) (t : Nat) (p : ByteArray) (w : World) (hT : Tabs w) (h : 2147483647 < s.size ∨ 2147483647 < p.size ∨ vld s = false ∨ vld p = false ∨ p.toList.isEmpty = true) :
    Calls Tryd.prog 9 #[.string s, .int .u8 (t : Int), .string p] w fun e w' => e = .returned (.bool true) ∧ Below w.heap.size w w' := by
  by_cases hb : 2147483647 < s.size
  · have hbz : (2147483647 : Int) < (s.size : Int) := by omega
    go_enter Tryd.func9, Tryd.ntmps9
    go_wp2
    go_ret
    exact ⟨rfl, Below.refl _ _⟩
  by_cases hb' : 2147483647 < p.size
  · have hbz : ¬ (2147483647 : Int) < (s.size : Int) := by omega
    have hby : (2147483647 : Int) < (p.size : Int) := by omega
    go_enter Tryd.func9, Tryd.ntmps9
    go_wp2
    go_ret
    exact ⟨rfl, Below.refl _ _⟩
  have hbz : ¬ (2147483647 : Int) < (s.size : Int) := by omega
  have hby : ¬ (2147483647 : Int) < (p.size : Int) := by omega
  cases hv : vld s with
  | false =>
    have cV : ∀ w, Tabs w → Calls Tryd.prog 12 #[.string s] w fun e w' => e = .returned (.bool false) ∧ Below w.heap.size w w' := fun w hT => hv ▸ valid_any s w (by omega) hT
    have HV := Lib.hid cV
    clear cV hv h
    go_enter Tryd.func9, Tryd.ntmps9
    go_wp2_with (go_at_call 23; (with_reducible refine (abc_any _ hT).mono ?_); rintro e w1 ⟨rfl, hb1⟩)
    have hT1 := hT.below hb1
    go_wp2_with (go_at_call 12; (with_reducible refine (HV.out _ hT1).mono ?_); rintro e w2 ⟨rfl, hb2⟩)
    have hT2 := hT1.below hb2
    go_ret
    exact ⟨rfl, bthen hb1 hb2⟩
  | true =>
    have cV : ∀ w, Tabs w → Calls Tryd.prog 12 #[.string s] w fun e w' => e = .returned (.bool true) ∧ Below w.heap.size w w' := fun w hT => hv ▸ valid_any s w (by omega) hT
    cases hv2 : vld p with
    | false =>
      have cU : ∀ w, Tabs w → Calls Tryd.prog 12 #[.string p] w fun e w' => e = .returned (.bool false) ∧ Below w.heap.size w w' := fun w hT => hv2 ▸ valid_any p w (by omega) hT
      have HV := Lib.hid cV
      have HU := Lib.hid cU
      clear cV cU hv hv2 h
      go_enter Tryd.func9, Tryd.ntmps9
      go_wp2_with (go_at_call 23; (with_reducible refine (abc_any _ hT).mono ?_); rintro e w1 ⟨rfl, hb1⟩)
      have hT1 := hT.below hb1
      go_wp2_with (go_at_call 12; (with_reducible refine (HV.out _ hT1).mono ?_); rintro e w2 ⟨rfl, hb2⟩)
      have hT2 := hT1.below hb2
      go_wp2_with (go_at_call 12; (with_reducible refine (HU.out _ hT2).mono ?_); rintro e w3 ⟨rfl, hb3⟩)
      have hT3 := hT2.below hb3
      go_ret
      exact ⟨rfl, bthen (bthen hb1 hb2) hb3⟩
    | true =>
      have cU : ∀ w, Tabs w → Calls Tryd.prog 12 #[.string p] w fun e w' => e = .returned (.bool true) ∧ Below w.heap.size w w' := fun w hT => hv2 ▸ valid_any p w (by omega) hT
      have hpe : p.toList.isEmpty = true := by
        rcases h with h | h | h | h | h
        · exact absurd h hb
        · exact absurd h hb'
        · rw [hv] at h; cases h
        · rw [hv2] at h; cases h
        · exact h
      have HV := Lib.hid cV
      have HU := Lib.hid cU
      clear cV cU hv hv2 h
      go_enter Tryd.func9, Tryd.ntmps9
      go_wp2_with (go_at_call 23; (with_reducible refine (abc_any _ hT).mono ?_); rintro e w1 ⟨rfl, hb1⟩)
      have hT1 := hT.below hb1
      go_wp2_with (go_at_call 12; (with_reducible refine (HV.out _ hT1).mono ?_); rintro e w2 ⟨rfl, hb2⟩)
      have hT2 := hT1.below hb2
      go_wp2_with (go_at_call 12; (with_reducible refine (HU.out _ hT2).mono ?_); rintro e w3 ⟨rfl, hb3⟩)
      have hT3 := hT2.below hb3
      go_ret
      exact ⟨rfl, bthen (bthen hb1 hb2) hb3⟩

set_option maxHeartbeats 4000000 in
set_option maxRecDepth 100000 in
theorem fnJustifyTurned_wide (s : ByteArray) (t : Nat) (p : ByteArray) (w : World) (_ht : t ≤ 255) (hn : 2000 < (segs s.data.toList).length + t % 20 * (segs p.data.toList).length) (hT : Tabs w) (hv : vld s = true) (hv2 : vld p = true) (hpe : p.toList.isEmpty = false) :
    Calls Tryd.prog 9 #[.string s, .int .u8 (t : Int), .string p] w fun e w' => e = .returned (.bool true) ∧ Below w.heap.size w w' := by
  have hle := (vld_ok2 hv).1
  have hle2 := (vld_ok2 hv2).1
  have hbz : ¬ (2147483647 : Int) < (s.size : Int) := by omega
  have hby : ¬ (2147483647 : Int) < (p.size : Int) := by omega
  have hp0 : p.data.toList ≠ [] := by
    intro e
    rw [Lib.toList_data, e] at hpe
    cases hpe
  have cV : ∀ w, Tabs w → Calls Tryd.prog 12 #[.string s] w fun e w' => e = .returned (.bool true) ∧ Below w.heap.size w w' := fun w hT => hv ▸ valid_any s w (by omega) hT
  have cU : ∀ w, Tabs w → Calls Tryd.prog 12 #[.string p] w fun e w' => e = .returned (.bool true) ∧ Below w.heap.size w w' := fun w hT => hv2 ▸ valid_any p w (by omega) hT
  have cL := fun w => len_any s w (by omega)
  have cM := fun w => len_any p w (by omega)
  have hsl := segs_le s
  have hpl := segs_le p
  have hlaw := turned s.data.toList p.data.toList (t % 20) (vld_ok2 hv).2 (vld_ok2 hv2).2 hp0
  obtain ⟨N, hN⟩ : ∃ N, (segs p.data.toList).length = N := ⟨_, rfl⟩
  obtain ⟨m, hm⟩ : ∃ m, (segs s.data.toList).length = m := ⟨_, rfl⟩
  obtain ⟨r, hr⟩ : ∃ r, t % 20 = r := ⟨_, rfl⟩
  have hr20 : r < 20 := by rw [← hr]; exact Nat.mod_lt _ (by decide)
  have hrem : Int.tmod (t : Int) 20 = (r : Int) := by rw [← hr]; rfl
  rw [hm, hN, hr] at hlaw
  rw [hm, hN, hr] at hn
  rw [hm] at cL hsl
  rw [hN] at cM hpl
  obtain ⟨Q, hQ⟩ : ∃ Q, r * N = Q := ⟨_, rfl⟩
  have hQb : Q ≤ 20 * 4096 := by rw [← hQ]; exact Nat.mul_le_mul (by omega) (by omega)
  rw [hQ] at hn hlaw
  have hmul : (r : Int) * (N : Int) = (Q : Int) := by rw [← hQ]; simp
  obtain ⟨n, hnn⟩ : ∃ n, m + Q = n := ⟨_, rfl⟩
  rw [hnn] at hn hlaw
  have hadd : (m : Int) + (Q : Int) = (n : Int) := by rw [← hnn]; simp
  have cW := fun w => wide_any (n : Int) w
  rw [show decide (2000 < (n : Int)) = true by simp; omega] at cW
  have HV := Lib.hid cV
  have HU := Lib.hid cU
  have HW := Lib.hid cW
  have HL := Lib.hid cL
  have HM := Lib.hid cM
  have hmb : m ≤ 4096 := by omega
  have hNb : N ≤ 4096 := by omega
  clear cV cU cW cL cM hv hv2 hlaw hm hN hQ hr hnn hsl hpl hle hle2 hp0
  go_enter Tryd.func9, Tryd.ntmps9
  go_wp2_with (go_at_call 23; (with_reducible refine (abc_any _ hT).mono ?_); rintro e w1 ⟨rfl, hb1⟩)
  have hT1 := hT.below hb1
  go_wp2_with (go_at_call 12; (with_reducible refine (HV.out _ hT1).mono ?_); rintro e w2 ⟨rfl, hb2⟩)
  have hT2 := hT1.below hb2
  go_wp2_with (go_at_call 12; (with_reducible refine (HU.out _ hT2).mono ?_); rintro e w3 ⟨rfl, hb3⟩)
  have hT3 := hT2.below hb3
  go_wp2_with (go_at_call 13; (with_reducible refine (HL.out _).mono ?_); rintro e w4 ⟨rfl, hb4⟩)
  have hT4 := hT3.below hb4
  go_wp2_with (go_at_call 13; (with_reducible refine (HM.out _).mono ?_); rintro e w5 ⟨rfl, hb5⟩)
  have hT5 := hT4.below hb5
  go_wp2_with (go_at_call 20; (with_reducible refine (HW.out _).mono ?_); rintro e w6 ⟨rfl, rfl⟩)
  go_ret
  exact ⟨rfl, bthen (bthen (bthen (bthen hb1 hb2) hb3) hb4) hb5⟩

set_option maxHeartbeats 4000000 in
set_option maxRecDepth 100000 in
theorem fnJustifyTurned_good (s : ByteArray) (t : Nat) (p : ByteArray) (w : World) (_ht : t ≤ 255) (hn : (segs s.data.toList).length + t % 20 * (segs p.data.toList).length ≤ 2000) (hT : Tabs w) (hv : vld s = true) (hv2 : vld p = true) (hpe : p.toList.isEmpty = false) :
    Calls Tryd.prog 9 #[.string s, .int .u8 (t : Int), .string p] w fun e w' => e = .returned (.bool true) ∧ Below w.heap.size w w' := by
  have hle := (vld_ok2 hv).1
  have hle2 := (vld_ok2 hv2).1
  have hbz : ¬ (2147483647 : Int) < (s.size : Int) := by omega
  have hby : ¬ (2147483647 : Int) < (p.size : Int) := by omega
  have hp0 : p.data.toList ≠ [] := by
    intro e
    rw [Lib.toList_data, e] at hpe
    cases hpe
  have cV : ∀ w, Tabs w → Calls Tryd.prog 12 #[.string s] w fun e w' => e = .returned (.bool true) ∧ Below w.heap.size w w' := fun w hT => hv ▸ valid_any s w (by omega) hT
  have cU : ∀ w, Tabs w → Calls Tryd.prog 12 #[.string p] w fun e w' => e = .returned (.bool true) ∧ Below w.heap.size w w' := fun w hT => hv2 ▸ valid_any p w (by omega) hT
  have cL := fun w => len_any s w (by omega)
  have cM := fun w => len_any p w (by omega)
  have hsl := segs_le s
  have hpl := segs_le p
  have hlaw := turned s.data.toList p.data.toList (t % 20) (vld_ok2 hv).2 (vld_ok2 hv2).2 hp0
  obtain ⟨N, hN⟩ : ∃ N, (segs p.data.toList).length = N := ⟨_, rfl⟩
  obtain ⟨m, hm⟩ : ∃ m, (segs s.data.toList).length = m := ⟨_, rfl⟩
  obtain ⟨r, hr⟩ : ∃ r, t % 20 = r := ⟨_, rfl⟩
  have hr20 : r < 20 := by rw [← hr]; exact Nat.mod_lt _ (by decide)
  have hrem : Int.tmod (t : Int) 20 = (r : Int) := by rw [← hr]; rfl
  rw [hm, hN, hr] at hlaw
  rw [hm, hN, hr] at hn
  rw [hm] at cL hsl
  rw [hN] at cM hpl
  obtain ⟨Q, hQ⟩ : ∃ Q, r * N = Q := ⟨_, rfl⟩
  have hQb : Q ≤ 20 * 4096 := by rw [← hQ]; exact Nat.mul_le_mul (by omega) (by omega)
  rw [hQ] at hn hlaw
  have hmul : (r : Int) * (N : Int) = (Q : Int) := by rw [← hQ]; simp
  obtain ⟨n, hnn⟩ : ∃ n, m + Q = n := ⟨_, rfl⟩
  rw [hnn] at hn hlaw
  have hadd : (m : Int) + (Q : Int) = (n : Int) := by rw [← hnn]; simp
  have cW := fun w => wide_any (n : Int) w
  rw [show decide (2000 < (n : Int)) = false by simp; omega] at cW
  obtain ⟨X, hX⟩ : ∃ X : ByteArray, ⟨(leftB s.data.toList p.data.toList (n : Int)).toArray⟩ = X := ⟨_, rfl⟩
  have hX2 : X.data.toList = leftB s.data.toList p.data.toList (n : Int) := by rw [← hX]
  have hXs : X.size ≤ 2147483647 := by
    rw [Lib.size_eq, hX2]
    unfold leftB
    split
    · rw [← Lib.size_eq]; omega
    · have h1 := padOf_length (segs p.data.toList) (lack s.data.toList (n : Int))
      rw [segs_flatten, ← Lib.size_eq] at h1
      have h2 : lack s.data.toList (n : Int) ≤ 2000 := by
        unfold lack
        omega
      have h3 := Nat.div_le_self (lack s.data.toList (n : Int)) (segs p.data.toList).length
      have h4 : (lack s.data.toList (n : Int) / (segs p.data.toList).length + 1) * p.size ≤ 2001 * 4096 := Nat.mul_le_mul (by omega) hle2
      rw [List.length_append, ← Lib.size_eq s]
      omega
  rw [← hX2, ← revS_list X, ← revS_list s, ← revS_list p] at hlaw
  have cQ : ∀ w, Tabs w → Calls Tryd.prog 23 #[.string s, .int .i64 n, .string p] w fun e w' => e = .returned (.string X) ∧ Below w.heap.size w w' := fun w hT => hX ▸ implLeftJustify_any s n p w (by omega) (by omega) (by omega) (by omega) hT
  have cA := fun w hT => implReverse_any X w hXs hT
  have cB := fun w hT => implReverse_any s w (by omega) hT
  have cC := fun w hT => implReverse_any p w (by omega) hT
  have hss := revS_size s
  have hps := revS_size p
  have cR : ∀ w, Tabs w → Calls Tryd.prog 21 #[.string (revS s), .int .i64 n, .string (revS p)] w fun e w' => e = .returned (.string (revS X)) ∧ Below w.heap.size w w' := fun w hT => by
    have := implRightJustify_any (revS s) n (revS p) w (by omega) (by omega) (by omega) (by omega) hT
    rwa [← hlaw, mk_list] at this
  generalize revS s = S' at cB cR
  generalize revS p = P' at cC cR
  generalize revS X = Z at cA cR
  have HV := Lib.hid cV
  have HU := Lib.hid cU
  have HW := Lib.hid cW
  have HL := Lib.hid cL
  have HM := Lib.hid cM
  have HA := Lib.hid cA
  have HB := Lib.hid cB
  have HC := Lib.hid cC
  have HR := Lib.hid cR
  have HQ := Lib.hid cQ
  have hmb : m ≤ 4096 := by omega
  have hNb : N ≤ 4096 := by omega
  clear cV cU cW cL cM cA cB cC cR cQ hv hv2 hlaw hm hN hQ hr hnn hsl hpl hle hle2 hp0 hX hX2 hXs hss hps
  go_enter Tryd.func9, Tryd.ntmps9
  go_wp2_with (go_at_call 23; (with_reducible refine (abc_any _ hT).mono ?_); rintro e w1 ⟨rfl, hb1⟩)
  have hT1 := hT.below hb1
  go_wp2_with (go_at_call 12; (with_reducible refine (HV.out _ hT1).mono ?_); rintro e w2 ⟨rfl, hb2⟩)
  have hT2 := hT1.below hb2
  go_wp2_with (go_at_call 12; (with_reducible refine (HU.out _ hT2).mono ?_); rintro e w3 ⟨rfl, hb3⟩)
  have hT3 := hT2.below hb3
  go_wp2_with (go_at_call 13; (with_reducible refine (HL.out _).mono ?_); rintro e w4 ⟨rfl, hb4⟩)
  have hT4 := hT3.below hb4
  go_wp2_with (go_at_call 13; (with_reducible refine (HM.out _).mono ?_); rintro e w5 ⟨rfl, hb5⟩)
  have hT5 := hT4.below hb5
  go_wp2_with (go_at_call 20; (with_reducible refine (HW.out _).mono ?_); rintro e w6 ⟨rfl, rfl⟩)
  go_wp2_with (go_at_call 23; (with_reducible refine (HQ.out _ hT5).mono ?_); rintro e w7 ⟨rfl, hb7⟩)
  have hT7 := hT5.below hb7
  go_wp2_with (go_at_call 15; (with_reducible refine (HA.out _ hT7).mono ?_); rintro e w8 ⟨rfl, hb8⟩)
  have hT8 := hT7.below hb8
  go_wp2_with (go_at_call 15; (with_reducible refine (HB.out _ hT8).mono ?_); rintro e w9 ⟨rfl, hb9⟩)
  have hT9 := hT8.below hb9
  go_wp2_with (go_at_call 15; (with_reducible refine (HC.out _ hT9).mono ?_); rintro e w10 ⟨rfl, hb10⟩)
  have hT10 := hT9.below hb10
  go_wp2_with (go_at_call 21; (with_reducible refine (HR.out _ hT10).mono ?_); rintro e w11 ⟨rfl, hb11⟩)
  go_ret
  exact ⟨rfl, bthen (bthen (bthen (bthen (bthen (bthen (bthen (bthen (bthen hb1 hb2) hb3) hb4) hb5) hb7) hb8) hb9) hb10) hb11⟩

theorem u8_bd {x : Int} (h : (Lit.int .u8 x).wf = true) : 0 ≤ x ∧ x ≤ 255 := by simpa [Lit.wf, IntKind.min, IntKind.max, IntKind.signed, IntKind.bits] using h
theorem fnJustifyTurned_walk (s : ByteArray) (ti : Int) (p : ByteArray) (w : World) (_h1 : s.size ≤ 140737488351232) (h3 : (Lit.int .u8 ti).wf = true) (_h2 : p.size ≤ 140737488351232) (hT : Tabs w) :
    Calls Tryd.prog 9 #[.string s, .int .u8 ti, .string p] w fun e w' => e = .returned (.bool true) ∧ Below w.heap.size w w' := by
  have b1 := u8_bd h3
  obtain ⟨t, rfl⟩ : ∃ t : Nat, ti = (t : Int) := ⟨ti.toNat, by omega⟩
  by_cases h : 2147483647 < s.size ∨ 2147483647 < p.size ∨ vld s = false ∨ vld p = false ∨ p.toList.isEmpty = true
  · exact fnJustifyTurned_early s t p w hT h
  · have hv : vld s = true := by
      cases hv : vld s with
      | true => rfl
      | false => exact absurd (.inr (.inr (.inl hv))) h
    have hv2 : vld p = true := by
      cases hv : vld p with
      | true => rfl
      | false => exact absurd (.inr (.inr (.inr (.inl hv)))) h
    have hpe : p.toList.isEmpty = false := by
      cases hv : p.toList.isEmpty with
      | false => rfl
      | true => exact absurd (.inr (.inr (.inr (.inr hv)))) h
    by_cases hn : 2000 < (segs s.data.toList).length + t % 20 * (segs p.data.toList).length
    · exact fnJustifyTurned_wide s t p w (by omega) hn hT hv hv2 hpe
    · exact fnJustifyTurned_good s t p w (by omega) (by omega) hT hv hv2 hpe
end Go.Proofs.YtobcoplfniojkaaDoor
