/- The walk of the law FnLen: a text that is UTF-8 has as many runes as the range over it gives characters. -/
import Derived.Test.YtobcoplfniojkaaDoorValid
import Derived.Test.YtobcoplfniojkaaDoorRunes
namespace Go.Proofs.YtobcoplfniojkaaDoor
open Go.RowKit Plain

theorem iter_below (w : World) (s : ByteArray) (pos : Nat) : Below w.heap.size w (w.iter s pos) := (Below.refl _ w).alloc (Nat.le_refl _) _
set_option maxRecDepth 100000 in
theorem implLen_any (s : ByteArray) (w : World) (hs : s.size ≤ 2147483647) :
    Calls Tryd.prog 13 #[.string s] w fun e w' => e = .returned (.int .i64 (rnsOf s.data.toList).length) ∧ Below w.heap.size w w' := by
  have h : Lib.runeCount s = (rnsOf s.data.toList).length := by rw [runeCount_segs]; simp [rnsOf]
  rw [← h]
  clear h
  go_enter Tryd.func13, Tryd.ntmps13
  go_wp2_with (first | (go_at_call 56; refine (Tryd.utf8_RuneCountInString s _ (by omega)).mono ?_; rintro e w1 ⟨rfl, pos, rfl⟩) | go_in)
  go_ret
  exact ⟨rfl, iter_below _ _ _⟩

theorem len_const : (rnsOf (⟨#[97, 195, 164]⟩ : ByteArray).data.toList).length = 2 := by decide +kernel

set_option maxHeartbeats 1000000 in
set_option maxRecDepth 100000 in
theorem fnLen_walk (s : ByteArray) (w : World) (_hs : s.size ≤ 140737488351232) (hT : Tabs w) :
    Calls Tryd.prog 3 #[.string s] w fun e w' => e = .returned (.bool true) ∧ Below w.heap.size w w' := by
  have cK : ∀ w, Calls Tryd.prog 13 #[.string ⟨#[97, 195, 164]⟩] w fun e w' => e = .returned (.int .i64 2) ∧ Below w.heap.size w w' := fun w => by
    have := implLen_any ⟨#[97, 195, 164]⟩ w (by decide)
    rwa [len_const] at this
  by_cases hb : 2147483647 < s.size
  · have hbz : (2147483647 : Int) < (s.size : Int) := by omega
    go_enter Tryd.func3, Tryd.ntmps3
    go_wp2
    go_ret
    exact ⟨rfl, Below.refl _ _⟩
  · have hbz : ¬ (2147483647 : Int) < (s.size : Int) := by omega
    have hle : s.size ≤ 2147483647 := by omega
    have HK := Lib.hid cK
    clear cK
    cases hv : vld s with
    | false =>
      have cV : ∀ w, Tabs w → Calls Tryd.prog 12 #[.string s] w fun e w' => e = .returned (.bool false) ∧ Below w.heap.size w w' := fun w hT => hv ▸ valid_any s w hle hT
      have HV := Lib.hid cV
      clear cV hv
      go_enter Tryd.func3, Tryd.ntmps3
      go_wp2_with (go_at_call 12; refine (HV.out _ hT).mono ?_; rintro e w1 ⟨rfl, hb1⟩)
      go_wp2_with (go_at_call 13; refine (HK.out _).mono ?_; rintro e w2 ⟨rfl, hb2⟩)
      go_ret
      exact ⟨rfl, hb1.trans (hb2.mono hb1.size)⟩
    | true =>
      have cV : ∀ w, Tabs w → Calls Tryd.prog 12 #[.string s] w fun e w' => e = .returned (.bool true) ∧ Below w.heap.size w w' := fun w hT => hv ▸ valid_any s w hle hT
      have HV := Lib.hid cV
      clear cV hv
      obtain ⟨ALL, hALL⟩ : ∃ ALL, rnsOf s.data.toList = ALL := ⟨_, rfl⟩
      have cL : ∀ w, Calls Tryd.prog 13 #[.string s] w fun e w' => e = .returned (.int .i64 ALL.length) ∧ Below w.heap.size w w' := fun w => hALL ▸ implLen_any s w hle
      have cR : ∀ w, Calls Tryd.prog 14 #[.string s] w fun e w' => ∃ ad cap, e = .returned (.slice ad ALL.length cap) ∧ w'.ownsRow (w.heap.size + 1) 21 1 (.slice ad ALL.length cap) ALL.length (rcells ALL) ∧ Below w.heap.size w w' := fun w => hALL ▸ runes_slice s w hle
      have hAL : ALL.length ≤ 2147483647 := by rw [← hALL]; have := rnsOf_length_le s.data.toList; rw [← Lib.size_eq] at this; omega
      clear hALL
      have HL := Lib.hid cL
      have HR := Lib.hid cR
      clear cL cR
      go_enter Tryd.func3, Tryd.ntmps3
      go_wp2_with (go_at_call 12; refine (HV.out _ hT).mono ?_; rintro e w1 ⟨rfl, hb1⟩)
      go_wp2_with (go_at_call 13; refine (HL.out _).mono ?_; rintro e w2 ⟨rfl, hb2⟩)
      go_wp2_with (go_at_call 14; refine (HR.out _).mono ?_; rintro e w3 ⟨ad, cap, rfl, hown, hb3⟩)
      clear hown
      go_wp2_with (go_at_call 13; refine (HK.out _).mono ?_; rintro e w4 ⟨rfl, hb4⟩)
      go_ret
      have e1 : Below w.heap.size w w2 := hb1.trans (hb2.mono hb1.size)
      have e2 : Below w.heap.size w w3 := e1.trans (hb3.mono e1.size)
      exact ⟨rfl, e2.trans (hb4.mono e2.size)⟩
end Go.Proofs.YtobcoplfniojkaaDoor
