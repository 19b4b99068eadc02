/- The walk of the law FnScrubTwice. -/
import Derived.Test.YtdomnccokhhieaaDoorScrubLaw
namespace Go.Proofs.YtdomnccokhhieaaDoor
open Go.RowKit Plain

set_option maxRecDepth 100000 in
theorem long_any (s : ByteArray) (w : World) (b : Bool) (h : decide (4096 < s.size) = b) :
    Calls Tryd.prog 15 #[.string s] w fun e w' => e = .returned (.bool b) ∧ w' = w := by
  by_cases hl : 4096 < s.size
  · obtain rfl : b = true := by rw [← h]; simp [hl]
    exact (long_yes s w hl).mono fun e w' ⟨he, hw⟩ => ⟨he, hw.symm⟩
  · obtain rfl : b = false := by rw [← h]; simp [hl]
    exact (long_no s w hl).mono fun e w' ⟨he, hw⟩ => ⟨he, hw.symm⟩
set_option maxRecDepth 100000 in
theorem implScrub_any (s repl : ByteArray) (w : World) (hs : s.size ≤ 140737488355328) (hbd : s.size * (repl.size + 1) + repl.size + s.size ≤ 140737488355328) (hT : Tabs w) :
    Calls Tryd.prog 14 #[.string s, .string repl] w fun e w' => e = .returned (.string ⟨(scr repl.data.toList (segs s.data.toList) false).toArray⟩) ∧ Below w.heap.size w w' := by
  have cC := Lib.hid (scrub_any s repl w hs hbd hT)
  clear hbd
  go_enter Tryd.func14, Tryd.ntmps14
  go_wp2_with (go_at_call 36; (with_reducible refine cC.out.mono ?_); rintro e w1 ⟨rfl, hb⟩; dsimp only)
  go_wp2
  go_ret
  exact ⟨rfl, hb⟩
theorem scrub_a : (⟨(scr (⟨#[63]⟩ : ByteArray).data.toList (segs (⟨#[97, 255, 254, 98]⟩ : ByteArray).data.toList) false).toArray⟩ : ByteArray) = ⟨#[97, 63, 98]⟩ := by decide +kernel
theorem a_any (w : World) (hT : Tabs w) : Calls Tryd.prog 14 #[.string ⟨#[97, 255, 254, 98]⟩, .string ⟨#[63]⟩] w fun e w' => e = .returned (.string ⟨#[97, 63, 98]⟩) ∧ Below w.heap.size w w' := by
  have := implScrub_any ⟨#[97, 255, 254, 98]⟩ ⟨#[63]⟩ w (by decide) (by decide) hT
  rwa [scrub_a] at this
theorem vld_ok3 {s : ByteArray} (h : vld s = true) : s.size ≤ 4096 ∧ Lib.validD s.data.toList = true := by simpa [vld] using h
/-- U+FFFD stands in a text -/
def Occ (l : List UInt8) : Prop := ∃ i, (l.drop i).take 3 = fffd
theorem at_no (s : ByteArray) (w : World) (hs : s.size ≤ 140737488355328) (h : ¬ Occ s.data.toList) :
    Calls Tryd.prog 17 #[.string s, .string ⟨#[239, 191, 189]⟩, .int .i64 0] w fun e w' => e = .returned (.int .i64 (-1)) ∧ w' = w := by
  refine (at_any s ⟨#[239, 191, 189]⟩ 0 w hs (by decide) (by decide)).mono ?_
  rintro e w' ⟨r, rfl, hr, rfl⟩
  rcases hr with ⟨rfl, _⟩ | ⟨k, _, _, _, hk, _⟩
  · exact ⟨rfl, rfl⟩
  · exact absurd ⟨k, hk⟩ h
theorem at_yes (s : ByteArray) (w : World) (hs : s.size ≤ 140737488355328) (h : Occ s.data.toList) :
    Calls Tryd.prog 17 #[.string s, .string ⟨#[239, 191, 189]⟩, .int .i64 0] w fun e w' => ∃ k : Nat, e = .returned (.int .i64 (k : Int)) ∧ w' = w := by
  refine (at_any s ⟨#[239, 191, 189]⟩ 0 w hs (by decide) (by decide)).mono ?_
  rintro e w' ⟨r, rfl, hr, rfl⟩
  rcases hr with ⟨rfl, hn⟩ | ⟨k, rfl, _⟩
  · obtain ⟨i, hi⟩ := h
    refine absurd hi (hn i (Nat.zero_le _) ?_)
    have := congrArg List.length hi
    simp [fffd] at this
    show i + 3 ≤ s.data.toList.length
    rw [← Lib.size_eq]
    omega
  · exact ⟨k, rfl, rfl⟩

/-- what scrubbing leaves -/
theorem scrub_leaves (s r : List UInt8) (hr : Lib.validD r = true) (hn : ¬ Occ r) :
    Lib.validD (scr r (segs s) false) = true ∧ ¬ Occ (scr r (segs s) false) ∧ ∀ x, scr x (segs (scr r (segs s) false)) false = scr r (segs s) false := by
  have hg := segs_good r hr
  have hrn : ∀ c ∈ segs r, ¬ runeOf c = 65533 := by
    intro c hc h
    have h1 := encode_runeOf c (hg c hc)
    rw [h] at h1
    have h2 : c = fffd := by rw [← h1]; decide +kernel
    obtain ⟨a, b, hab⟩ := List.append_of_mem hc
    apply hn
    refine ⟨a.flatten.length, ?_⟩
    have h3 := segs_flatten r
    rw [hab, List.flatten_append, List.flatten_cons, h2] at h3
    rw [← h3, drop_over (Nat.le_refl _), Nat.sub_self, List.drop_zero]
    rfl
  have hP := scrP_flat (segs r) (segs s) false
  rw [segs_flatten] at hP
  rw [← hP]
  have g1 : ∀ c ∈ scrP (segs r) (segs s) false, Plain.Good c := scrP_all (p := Plain.Good) (segs r) hg (segs s) false fun c hc hne => ⟨segs_ne s c hc, segs_piece s c hc, fun h => hne h.1⟩
  have g2 : ∀ c ∈ scrP (segs r) (segs s) false, ¬ runeOf c = 65533 := scrP_all (p := fun c => ¬ runeOf c = 65533) (segs r) hrn (segs s) false fun c _ hne => hne
  refine ⟨valid_of_good _ g1, fun ⟨i, hi⟩ => no_fffd _ g1 g2 i hi, fun x => ?_⟩
  rw [segs_of_good _ g1]
  exact scr_none x _ g2

set_option maxHeartbeats 2000000 in
set_option maxRecDepth 100000 in
theorem fnScrubTwice_early (s p : ByteArray) (w : World) (hT : Tabs w) (h : 2147483647 < s.size ∨ 2147483647 < p.size ∨ 4096 < s.size ∨ vld p = false ∨ Occ p.data.toList) :
    Calls Tryd.prog 4 #[.string s, .string p] w fun e w' => e = .returned (.bool true) ∧ Below w.heap.size w w' := by
  by_cases hb : 2147483647 < s.size
  · have hbz : (2147483647 : Int) < (s.size : Int) := by omega
    go_enter Tryd.func4, Tryd.ntmps4
    go_wp2
    go_ret
    exact ⟨rfl, Below.refl _ _⟩
  by_cases hb' : 2147483647 < p.size
  · have hbz : ¬ (2147483647 : Int) < (s.size : Int) := by omega
    have hby : (2147483647 : Int) < (p.size : Int) := by omega
    go_enter Tryd.func4, Tryd.ntmps4
    go_wp2
    go_ret
    exact ⟨rfl, Below.refl _ _⟩
  have hbz : ¬ (2147483647 : Int) < (s.size : Int) := by omega
  have hby : ¬ (2147483647 : Int) < (p.size : Int) := by omega
  by_cases hl : 4096 < s.size
  · have HL := Lib.hid (fun w => long_any s w true (by simp [hl]))
    clear hl h
    go_enter Tryd.func4, Tryd.ntmps4
    go_wp2_with (go_at_call 14; (with_reducible refine (a_any _ hT).mono ?_); rintro e w1 ⟨rfl, hb1⟩)
    have hT1 := hT.below hb1
    go_wp2_with (go_at_call 15; (with_reducible refine (HL.out _).mono ?_); rintro e w9 ⟨rfl, rfl⟩)
    go_ret
    exact ⟨rfl, hb1⟩
  have HL := Lib.hid (fun w => long_any s w false (by simp [hl]))
  cases hv : vld p with
  | false =>
    have HU : Hid (∀ w, Tabs w → Calls Tryd.prog 16 #[.string p] w fun e w' => e = .returned (.bool false) ∧ Below w.heap.size w w') := Lib.hid fun w hT => hv ▸ valid_any p w (by omega) hT
    clear hv hl h
    go_enter Tryd.func4, Tryd.ntmps4
    go_wp2_with (go_at_call 14; (with_reducible refine (a_any _ hT).mono ?_); rintro e w1 ⟨rfl, hb1⟩)
    have hT1 := hT.below hb1
    go_wp2_with (go_at_call 15; (with_reducible refine (HL.out _).mono ?_); rintro e w9 ⟨rfl, rfl⟩)
    go_wp2_with (go_at_call 16; (with_reducible refine (HU.out _ hT1).mono ?_); rintro e w2 ⟨rfl, hb2⟩)
    have hT2 := hT1.below hb2
    go_ret
    exact ⟨rfl, bthen hb1 hb2⟩
  | true =>
    have HU : Hid (∀ w, Tabs w → Calls Tryd.prog 16 #[.string p] w fun e w' => e = .returned (.bool true) ∧ Below w.heap.size w w') := Lib.hid fun w hT => hv ▸ valid_any p w (by omega) hT
    have ho : Occ p.data.toList := by
      rcases h with h | h | h | h | h
      · exact absurd h hb
      · exact absurd h hb'
      · exact absurd h hl
      · rw [hv] at h; cases h
      · exact h
    have HA := Lib.hid (fun w => at_yes p w (by omega) ho)
    clear hv hl h ho
    go_enter Tryd.func4, Tryd.ntmps4
    go_wp2_with (go_at_call 14; (with_reducible refine (a_any _ hT).mono ?_); rintro e w1 ⟨rfl, hb1⟩)
    have hT1 := hT.below hb1
    go_wp2_with (go_at_call 15; (with_reducible refine (HL.out _).mono ?_); rintro e w9 ⟨rfl, rfl⟩)
    go_wp2_with (go_at_call 16; (with_reducible refine (HU.out _ hT1).mono ?_); rintro e w2 ⟨rfl, hb2⟩)
    have hT2 := hT1.below hb2
    go_wp2_with (go_at_call 17; (with_reducible refine (HA.out _).mono ?_); rintro e w9 ⟨k, rfl, rfl⟩)
    have hk : (0 : Int) ≤ (k : Int) := by omega
    go_wp2
    go_ret
    exact ⟨rfl, bthen hb1 hb2⟩

set_option maxHeartbeats 4000000 in
set_option maxRecDepth 100000 in
theorem fnScrubTwice_good (s p : ByteArray) (w : World) (hT : Tabs w) (hl : ¬ 4096 < s.size) (hv : vld p = true) (ho : ¬ Occ p.data.toList) :
    Calls Tryd.prog 4 #[.string s, .string p] w fun e w' => e = .returned (.bool true) ∧ Below w.heap.size w w' := by
  have hle := (vld_ok3 hv).1
  have hbz : ¬ (2147483647 : Int) < (s.size : Int) := by omega
  have hby : ¬ (2147483647 : Int) < (p.size : Int) := by omega
  obtain ⟨h1, h2, h3⟩ := scrub_leaves s.data.toList p.data.toList (vld_ok3 hv).2 ho
  have h4 := scr_length p.data.toList (segs s.data.toList) false
  rw [segs_flatten, ← Lib.size_eq, ← Lib.size_eq] at h4
  have h5 : ((segs s.data.toList).length + 1) * p.size ≤ 4097 * 4096 := Nat.mul_le_mul (by have := segs_length_le s.data.toList; rw [← Lib.size_eq] at this; omega) hle
  obtain ⟨T, hTT⟩ : ∃ T : ByteArray, ⟨(scr p.data.toList (segs s.data.toList) false).toArray⟩ = T := ⟨_, rfl⟩
  have hTl : T.data.toList = scr p.data.toList (segs s.data.toList) false := by rw [← hTT]
  have h6 : s.size * (p.size + 1) ≤ 4096 * 4097 := Nat.mul_le_mul (by omega) (by omega)
  have hTs : T.size ≤ 16785408 := by rw [Lib.size_eq, hTl]; omega
  rw [← hTl] at h1 h2 h3
  have HL := Lib.hid (fun w => long_any s w false (by simp [hl]))
  have HU : Hid (∀ w, Tabs w → Calls Tryd.prog 16 #[.string p] w fun e w' => e = .returned (.bool true) ∧ Below w.heap.size w w') := Lib.hid fun w hT => hv ▸ valid_any p w (by omega) hT
  have HA := Lib.hid (fun w => at_no p w (by omega) ho)
  have HB := Lib.hid (fun w => at_no T w (by omega) h2)
  have HS : Hid (∀ w, Tabs w → Calls Tryd.prog 14 #[.string s, .string p] w fun e w' => e = .returned (.string T) ∧ Below w.heap.size w w') := Lib.hid fun w hT => hTT ▸ implScrub_any s p w (by omega) (by omega) hT
  obtain ⟨X, hX⟩ : ∃ X : ByteArray, (⟨#[120]⟩ : ByteArray) ++ p = X := ⟨_, rfl⟩
  have hXs : X.size ≤ 4097 := by rw [← hX, ByteArray.size_append]; show 1 + p.size ≤ 4097; omega
  have h7 : T.size * (X.size + 1) ≤ 16785408 * 4098 := Nat.mul_le_mul hTs (by omega)
  have HQ : Hid (∀ w, Tabs w → Calls Tryd.prog 14 #[.string T, .string ((⟨#[120]⟩ : ByteArray) ++ p)] w fun e w' => e = .returned (.string T) ∧ Below w.heap.size w w') := Lib.hid fun w hT => by
    have := implScrub_any T X w (by omega) (by omega) hT
    rw [h3, hX.symm] at this
    exact this
  have hpz : p.size ≤ 4096 := hle
  cases hlt : decide (4096 < T.size) with
  | true =>
    have HM := Lib.hid (fun w => long_any T w true hlt)
    clear hlt hv ho hle h1 h2 h3 h4 h5 h6 h7 hTT hTl hX hXs hl hTs
    go_enter Tryd.func4, Tryd.ntmps4
    go_wp2_with (go_at_call 14; (with_reducible refine (a_any _ hT).mono ?_); rintro e w1 ⟨rfl, hb1⟩)
    have hT1 := hT.below hb1
    go_wp2_with (go_at_call 15; (with_reducible refine (HL.out _).mono ?_); rintro e w9 ⟨rfl, rfl⟩)
    go_wp2_with (go_at_call 16; (with_reducible refine (HU.out _ hT1).mono ?_); rintro e w2 ⟨rfl, hb2⟩)
    have hT2 := hT1.below hb2
    go_wp2_with (go_at_call 17; (with_reducible refine (HA.out _).mono ?_); rintro e w9 ⟨rfl, rfl⟩)
    go_wp2_with (go_at_call 14; (with_reducible refine (HS.out _ hT2).mono ?_); rintro e w3 ⟨rfl, hb3⟩)
    have hT3 := hT2.below hb3
    go_wp2_with (go_at_call 15; (with_reducible refine (HM.out _).mono ?_); rintro e w9 ⟨rfl, rfl⟩)
    go_wp2_with (go_at_call 17; (with_reducible refine (HB.out _).mono ?_); rintro e w9 ⟨rfl, rfl⟩)
    go_wp2_with (go_at_call 14; (with_reducible refine (HQ.out _ hT3).mono ?_); rintro e w4 ⟨rfl, hb4⟩)
    have hT4 := hT3.below hb4
    go_ret
    exact ⟨rfl, bthen (bthen (bthen hb1 hb2) hb3) hb4⟩
  | false =>
    have HM := Lib.hid (fun w => long_any T w false hlt)
    have hvT : vld T = true := by
      have : ¬ 4096 < T.size := by simpa using hlt
      simp [vld, h1]; omega
    have HV : Hid (∀ w, Tabs w → Calls Tryd.prog 16 #[.string T] w fun e w' => e = .returned (.bool true) ∧ Below w.heap.size w w') := Lib.hid fun w hT => hvT ▸ valid_any T w (by omega) hT
    clear hlt hv ho hle h1 h2 h3 h4 h5 h6 h7 hTT hTl hX hXs hvT hl hTs
    go_enter Tryd.func4, Tryd.ntmps4
    go_wp2_with (go_at_call 14; (with_reducible refine (a_any _ hT).mono ?_); rintro e w1 ⟨rfl, hb1⟩)
    have hT1 := hT.below hb1
    go_wp2_with (go_at_call 15; (with_reducible refine (HL.out _).mono ?_); rintro e w9 ⟨rfl, rfl⟩)
    go_wp2_with (go_at_call 16; (with_reducible refine (HU.out _ hT1).mono ?_); rintro e w2 ⟨rfl, hb2⟩)
    have hT2 := hT1.below hb2
    go_wp2_with (go_at_call 17; (with_reducible refine (HA.out _).mono ?_); rintro e w9 ⟨rfl, rfl⟩)
    go_wp2_with (go_at_call 14; (with_reducible refine (HS.out _ hT2).mono ?_); rintro e w3 ⟨rfl, hb3⟩)
    have hT3 := hT2.below hb3
    go_wp2_with (go_at_call 15; (with_reducible refine (HM.out _).mono ?_); rintro e w9 ⟨rfl, rfl⟩)
    go_wp2_with (go_at_call 16; (with_reducible refine (HV.out _ hT3).mono ?_); rintro e w5 ⟨rfl, hb5⟩)
    have hT5 := hT3.below hb5
    go_wp2_with (go_at_call 17; (with_reducible refine (HB.out _).mono ?_); rintro e w9 ⟨rfl, rfl⟩)
    go_wp2_with (go_at_call 14; (with_reducible refine (HQ.out _ hT5).mono ?_); rintro e w4 ⟨rfl, hb4⟩)
    have hT4 := hT5.below hb4
    go_ret
    exact ⟨rfl, bthen (bthen (bthen (bthen hb1 hb2) hb3) hb5) hb4⟩

theorem fnScrubTwice_walk (s p : ByteArray) (w : World) (_h1 : s.size ≤ 140737488351232) (_h2 : p.size ≤ 140737488351232) (hT : Tabs w) :
    Calls Tryd.prog 4 #[.string s, .string p] w fun e w' => e = .returned (.bool true) ∧ Below w.heap.size w w' := by
  by_cases h : 2147483647 < s.size ∨ 2147483647 < p.size ∨ 4096 < s.size ∨ vld p = false ∨ Occ p.data.toList
  · exact fnScrubTwice_early s p w hT h
  · have hv : vld p = true := by
      cases hv : vld p with
      | true => rfl
      | false => exact absurd (.inr (.inr (.inr (.inl hv)))) h
    exact fnScrubTwice_good s p w hT (fun hl => h (.inr (.inr (.inl hl)))) hv (fun ho => h (.inr (.inr (.inr (.inr ho)))))
end Go.Proofs.YtdomnccokhhieaaDoor
