/- The walk of xstrings.RuneWidth. -/
import Derived.Test.YtdomnccokhhieaaDoorDec
namespace Go.Proofs.YtdomnccokhhieaaDoor
open Go.RowKit Plain

/-- xstrings.RuneWidth -/
def rwid (c : Int) : Int := if c = 65533 ∨ c < 32 then 0 else if c < 8192 then 1 else if c < 65377 then 2 else if c < 65440 then 1 else 2
theorem rwid_le (c : Int) : 0 ≤ rwid c ∧ rwid c ≤ 2 := by unfold rwid; (repeat' split) <;> omega

set_option maxHeartbeats 1000000 in
set_option maxRecDepth 100000 in
theorem runeWidth_any (c : Int) (w : World) :
    Calls Tryd.prog 55 #[.int .i32 c] w fun e w' => e = .returned (.int .i64 (rwid c)) ∧ w = w' := by
  by_cases h0 : c = 65533
  · have H := Lib.hid (show (0 : Int) = rwid c by unfold rwid; rw [if_pos (.inl h0)])
    have e0 : (c == 65533) = true := by simpa using h0
    clear h0
    go_enter Tryd.func55, Tryd.ntmps55
    go_wp2
    go_ret
    exact ⟨ret_int H.out, rfl⟩
  have e0 : (c == 65533) = false := by simpa using h0
  by_cases h1 : c < 32
  · have H := Lib.hid (show (0 : Int) = rwid c by unfold rwid; rw [if_pos (.inr h1)])
    clear h0
    go_enter Tryd.func55, Tryd.ntmps55
    go_wp2
    go_ret
    exact ⟨ret_int H.out, rfl⟩
  by_cases h2 : c < 8192
  · have H := Lib.hid (show (1 : Int) = rwid c by unfold rwid; rw [if_neg (by omega), if_pos h2])
    clear h0
    go_enter Tryd.func55, Tryd.ntmps55
    go_wp2
    go_ret
    exact ⟨ret_int H.out, rfl⟩
  by_cases h3 : c < 65377
  · have H := Lib.hid (show (2 : Int) = rwid c by unfold rwid; rw [if_neg (by omega), if_neg h2, if_pos h3])
    clear h0
    go_enter Tryd.func55, Tryd.ntmps55
    go_wp2
    go_ret
    exact ⟨ret_int H.out, rfl⟩
  by_cases h4 : c < 65440
  · have H := Lib.hid (show (1 : Int) = rwid c by unfold rwid; rw [if_neg (by omega), if_neg h2, if_neg h3, if_pos h4])
    clear h0
    go_enter Tryd.func55, Tryd.ntmps55
    go_wp2
    go_ret
    exact ⟨ret_int H.out, rfl⟩
  · have H := Lib.hid (show (2 : Int) = rwid c by unfold rwid; rw [if_neg (by omega), if_neg h2, if_neg h3, if_neg h4])
    clear h0
    go_enter Tryd.func55, Tryd.ntmps55
    go_wp2
    go_ret
    exact ⟨ret_int H.out, rfl⟩

end Go.Proofs.YtdomnccokhhieaaDoor
