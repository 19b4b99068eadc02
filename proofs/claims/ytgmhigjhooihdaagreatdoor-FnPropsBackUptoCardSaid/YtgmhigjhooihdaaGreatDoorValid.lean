/- The walk of laws.valid: a text of at most 4096 bytes that is UTF-8. -/
import Derived.Test.YtgmhigjhooihdaaGreatDoorDec
namespace Go.Proofs.YtgmhigjhooihdaaGreatDoor
open Go.RowKit Plain

/-! ### laws.long, laws.valid -/
def vld (s : ByteArray) : Bool := decide (s.size ≤ 4096) && Lib.validD s.data.toList

set_option maxRecDepth 100000 in
theorem long_yes (s : ByteArray) (w : World) (h : 4096 < s.size) :
    Calls Tryz.prog 33 #[.string s] w fun e w' => e = .returned (.bool true) ∧ w = w' := by
  have h1 : (4096 : Int) < (s.size : Int) := by omega
  go_enter Tryz.func33, Tryz.ntmps33
  go_wp2
  go_ret
  exact ⟨rfl, rfl⟩
set_option maxRecDepth 100000 in
theorem long_no (s : ByteArray) (w : World) (h : ¬ 4096 < s.size) :
    Calls Tryz.prog 33 #[.string s] w fun e w' => e = .returned (.bool false) ∧ w = w' := by
  have h1 : ¬ (4096 : Int) < (s.size : Int) := by omega
  go_enter Tryz.func33, Tryz.ntmps33
  go_wp2
  go_ret
  exact ⟨rfl, rfl⟩

set_option maxHeartbeats 1000000 in
set_option maxRecDepth 100000 in
theorem valid_any (s : ByteArray) (w : World) (hs : s.size ≤ 2147483647) (hT : Tabs w) :
    Calls Tryz.prog 10 #[.string s] w fun e w' => e = .returned (.bool (vld s)) ∧ Below w.heap.size w w' := by
  have cV := fun w (hT : Tabs w) => Tryz.utf8_ValidString s w (by omega) hT
  obtain ⟨V, hV⟩ : ∃ V, Lib.validD s.data.toList = V := ⟨_, rfl⟩
  obtain ⟨U, hU⟩ : ∃ U, vld s = U := ⟨_, rfl⟩
  have hUV := Lib.hid (show U = (decide (s.size ≤ 4096) && V) by rw [← hU, ← hV]; rfl)
  rw [hU]
  rw [hV] at cV
  clear hU hV
  have HV := Lib.hid cV
  clear cV
  by_cases hl : 4096 < s.size
  · go_enter Tryz.func10, Tryz.ntmps10
    go_wp2_with (go_at_call 33; refine (long_yes s _ hl).mono ?_; rintro e w1 ⟨rfl, rfl⟩)
    go_ret
    have := hUV.out
    simp [show ¬ s.size ≤ 4096 by omega] at this
    exact ⟨ret_bool this.symm, Below.refl _ _⟩
  · go_enter Tryz.func10, Tryz.ntmps10
    go_wp2_with (first | (go_at_call 33; refine (long_no s _ hl).mono ?_; rintro e w1 ⟨rfl, rfl⟩) | (go_at_call 34; refine (HV.out _ hT).mono ?_; rintro e w1 ⟨rfl, hb⟩))
    go_ret
    have := hUV.out
    simp [show s.size ≤ 4096 by omega] at this
    exact ⟨ret_bool this.symm, hb⟩
end Go.Proofs.YtgmhigjhooihdaaGreatDoor
