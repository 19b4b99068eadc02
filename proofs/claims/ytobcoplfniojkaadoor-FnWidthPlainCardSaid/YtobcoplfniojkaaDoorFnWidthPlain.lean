/- The walk of the law FnWidthPlain: the width of a text of ASCII that can be seen is its length, and no text is wider than twice its runes. -/
import Derived.Test.YtobcoplfniojkaaDoorLen
import Derived.Test.YtobcoplfniojkaaDoorWidth
namespace Go.Proofs.YtobcoplfniojkaaDoor
open Go.RowKit Plain

def vis (c : UInt8) : Bool := decide (32 ≤ c.toNat) && decide (c.toNat < 127)
def visAll (l : List UInt8) : Bool := l.all vis
theorem vis_yes (x : UInt8) (h : (32 : Int) ≤ (x.toNat : Int)) : Value.bool (decide ((x.toNat : Int) < 127)) = Value.bool (vis x) := by
  have h2 : 32 ≤ x.toNat := by omega
  unfold vis
  by_cases h3 : x.toNat < 127
  · have : (x.toNat : Int) < 127 := by omega
    simp [h2, h3, this]
  · have : ¬ (x.toNat : Int) < 127 := by omega
    simp only [this, h3, decide_false, Bool.and_false]
theorem vis_no (x : UInt8) (h : ¬ (32 : Int) ≤ (x.toNat : Int)) : Value.bool false = Value.bool (vis x) := by
  have h2 : ¬ 32 ≤ x.toNat := by omega
  unfold vis
  simp only [h2, decide_false, Bool.false_and]
theorem wids_vis : ∀ l, visAll l = true → wids (segs l) = l.length
  | [], _ => rfl
  | b :: t, h => by
    simp only [visAll, List.all_cons, Bool.and_eq_true] at h
    have hb := h.1
    simp only [vis, Bool.and_eq_true, decide_eq_true_eq] at hb
    rw [segs_ascii b t (by omega), wids, wids_vis t (by simpa [visAll] using h.2), runeOf_ascii b (by omega)]
    have : rwid (b.toNat : Int) = 1 := by unfold rwid; rw [if_neg (by omega), if_pos (by omega)]
    rw [this, List.length_cons]
    omega
theorem take_snoc' (s : ByteArray) (k : Nat) (h : k < s.size) : s.data.toList.take (k + 1) = s.data.toList.take k ++ [s[k]] := by
  rw [List.take_succ_eq_append_getElem (by simpa using h)]; rfl
theorem visAll_snoc (s : ByteArray) (k : Nat) (h : k < s.size) : visAll (s.data.toList.take (k + 1)) = (visAll (s.data.toList.take k) && vis s[k]) := by
  rw [take_snoc' s k h]
  simp [visAll]

set_option maxRecDepth 100000 in
theorem implWidth_any (s : ByteArray) (w : World) (hs : s.size ≤ 2147483647) (hT : Tabs w) :
    Calls Tryd.prog 16 #[.string s] w fun e w' => e = .returned (.int .i64 (wids (segs s.data.toList))) ∧ Below w.heap.size w w' := by
  go_enter Tryd.func16, Tryd.ntmps16
  go_wp2_with (go_at_call 41; refine (width_any s _ hs hT).mono ?_; rintro e w1 ⟨rfl, hb⟩)
  go_ret
  exact ⟨rfl, hb⟩
theorem width_ab : wids (segs (⟨#[97, 98]⟩ : ByteArray).data.toList) = 2 := by decide +kernel
theorem width_zh : wids (segs (⟨#[228, 184, 173]⟩ : ByteArray).data.toList) = 2 := by decide +kernel

set_option maxHeartbeats 2000000 in
set_option maxRecDepth 100000 in
theorem fnWidthPlain_walk (s : ByteArray) (w : World) (_hs : s.size ≤ 140737488351232) (hT : Tabs w) :
    Calls Tryd.prog 5 #[.string s] w fun e w' => e = .returned (.bool true) ∧ Below w.heap.size w w' := by
  have cA : ∀ w, Tabs w → Calls Tryd.prog 16 #[.string ⟨#[97, 98]⟩] w fun e w' => e = .returned (.int .i64 2) ∧ Below w.heap.size w w' := fun w hT => width_ab ▸ implWidth_any ⟨#[97, 98]⟩ w (by decide) hT
  have cZ : ∀ w, Tabs w → Calls Tryd.prog 16 #[.string ⟨#[228, 184, 173]⟩] w fun e w' => e = .returned (.int .i64 2) ∧ Below w.heap.size w w' := fun w hT => width_zh ▸ implWidth_any ⟨#[228, 184, 173]⟩ w (by decide) hT
  by_cases hb : 2147483647 < s.size
  · have hbz : (2147483647 : Int) < (s.size : Int) := by omega
    go_enter Tryd.func5, Tryd.ntmps5
    go_wp2
    go_ret
    exact ⟨rfl, Below.refl _ _⟩
  · have hbz : ¬ (2147483647 : Int) < (s.size : Int) := by omega
    have hle : s.size ≤ 2147483647 := by omega
    have HA := Lib.hid cA
    have HZ := Lib.hid cZ
    clear cA cZ
    cases hv : vld s with
    | false =>
      have cV : ∀ w, Tabs w → Calls Tryd.prog 12 #[.string s] w fun e w' => e = .returned (.bool false) ∧ Below w.heap.size w w' := fun w hT => hv ▸ valid_any s w hle hT
      have HV := Lib.hid cV
      clear cV hv
      go_enter Tryd.func5, Tryd.ntmps5
      go_wp2_with (go_at_call 16; refine (HA.out _ hT).mono ?_; rintro e w1 ⟨rfl, hb1⟩)
      have hT1 := hT.below hb1
      go_wp2_with (go_at_call 16; refine (HZ.out _ hT1).mono ?_; rintro e w2 ⟨rfl, hb2⟩)
      have hT2 := hT1.below hb2
      go_wp2_with (go_at_call 12; refine (HV.out _ hT2).mono ?_; rintro e w3 ⟨rfl, hb3⟩)
      go_ret
      exact ⟨rfl, bthen (bthen hb1 hb2) hb3⟩
    | true =>
      have cV : ∀ w, Tabs w → Calls Tryd.prog 12 #[.string s] w fun e w' => e = .returned (.bool true) ∧ Below w.heap.size w w' := fun w hT => hv ▸ valid_any s w hle hT
      have HV := Lib.hid cV
      clear cV hv
      obtain ⟨Wd, hWd⟩ : ∃ Wd, wids (segs s.data.toList) = Wd := ⟨_, rfl⟩
      obtain ⟨Ln, hLn⟩ : ∃ Ln, (segs s.data.toList).length = Ln := ⟨_, rfl⟩
      have cW : ∀ w, Tabs w → Calls Tryd.prog 16 #[.string s] w fun e w' => e = .returned (.int .i64 Wd) ∧ Below w.heap.size w w' := fun w hT => hWd ▸ implWidth_any s w hle hT
      have cL : ∀ w, Calls Tryd.prog 13 #[.string s] w fun e w' => e = .returned (.int .i64 Ln) ∧ Below w.heap.size w w' := fun w => hLn ▸ len_any s w (by omega)
      have hWL := wids_le (segs s.data.toList)
      have hLs := segs_le s
      have hvs : visAll s.data.toList = true → Wd = s.size := fun h => by rw [← hWd, wids_vis _ h, Lib.size_eq]
      rw [hWd, hLn] at hWL
      rw [hLn] at hLs
      have hW0 := hWL.1
      have hW1 := hWL.2
      have HVS := Lib.hid hvs
      have HW := Lib.hid cW
      have HL := Lib.hid cL
      clear hWd hLn cW cL hvs hWL
      go_enter Tryd.func5, Tryd.ntmps5
      go_wp2_with (go_at_call 16; refine (HA.out _ hT).mono ?_; rintro e w1 ⟨rfl, hb1⟩)
      have hT1 := hT.below hb1
      go_wp2_with (go_at_call 16; refine (HZ.out _ hT1).mono ?_; rintro e w2 ⟨rfl, hb2⟩)
      have hT2 := hT1.below hb2
      go_wp2_with (go_at_call 12; refine (HV.out _ hT2).mono ?_; rintro e w3 ⟨rfl, hb3⟩)
      have hT3 := hT2.below hb3
      have hB3 := bthen (bthen hb1 hb2) hb3
      clear hb1 hb2 hb3 hT1 hT2 HA HZ HV
      go_loop [3, 4] (fun sn i => ∃ k : Nat, k ≤ s.size ∧ i = .int .i64 k ∧ sn = .bool (visAll (s.data.toList.take k))) (fun _ i => s.size - (intOf i).toNat)
      case atStart => exact ⟨0, Nat.zero_le _, rfl, rfl⟩
      case round =>
        obtain ⟨k, hk, rfl, rfl⟩ := hrel
        by_cases hlt : k < s.size
        · have HS := Lib.hid (visAll_snoc s k hlt)
          obtain ⟨Y, hY⟩ : ∃ Y, visAll (s.data.toList.take (k + 1)) = Y := ⟨_, rfl⟩
          obtain ⟨X, hX⟩ : ∃ X, visAll (s.data.toList.take k) = X := ⟨_, rfl⟩
          rw [hX, hY] at HS
          rw [hX]
          have HY := Lib.hid hY
          clear hX hY
          cases X with
          | false =>
            go_wp2
            go_round
            case rel => exact ⟨k + 1, by omega, by go_num, by rw [HY.out, HS.out]; rfl⟩
            case measure => simp [intOf]; omega
          | true =>
            go_wp2
            all_goals
              go_round
              case rel =>
                refine ⟨k + 1, by omega, by go_num, ?_⟩
                rw [HY.out, HS.out, Bool.true_and]
                first | exact vis_yes _ ‹_› | exact vis_no _ ‹_›
              case measure => simp [intOf]; omega
        · have e0 : s.data.toList.take k = s.data.toList := List.take_of_length_le (by rw [← Lib.size_eq]; omega)
          rw [e0]
          clear e0
          have hkz : ¬ (k : Int) < (s.size : Int) := by omega
          obtain ⟨X, hX⟩ : ∃ X, visAll s.data.toList = X := ⟨_, rfl⟩
          rw [hX]
          rw [hX] at HVS
          clear hX
          cases X with
          | false =>
            go_wp2_with (first | (go_at_call 16; refine (HW.out _ hT3).mono ?_; rintro e w4 ⟨rfl, hb4⟩) | (go_at_call 13; refine (HL.out _).mono ?_; rintro e w5 ⟨rfl, hb5⟩))
            go_ret
            exact ⟨rfl, bthen (bthen hB3 hb4) hb5⟩
          | true =>
            have hWs := HVS.out rfl
            subst hWs
            go_wp2_with (first | (go_at_call 16; refine (HW.out _ hT3).mono ?_; rintro e w4 ⟨rfl, hb4⟩) | (go_at_call 13; refine (HL.out _).mono ?_; rintro e w5 ⟨rfl, hb5⟩))
            go_ret
            exact ⟨rfl, bthen (bthen hB3 hb4) hb5⟩
end Go.Proofs.YtobcoplfniojkaaDoor
