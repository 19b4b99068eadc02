/- The walks of the small functions round shellwords.Parse. -/
import Derived.Test.YtcjfcjlendibpaaDoorPFlush
import Derived.Test.YtcjfcjlendibpaaDoorShelf
import Derived.Deep.LoopGhost
set_option linter.unusedVariables false
namespace Go.Proofs.YtcjfcjlendibpaaDoor
open Go.RowKit Plain

set_option maxRecDepth 100000 in
theorem isSpace_any (r : Nat) (w : World) (x : Bool) (hx : isSpN r = x) :
    Calls Tryd.prog 40 #[.int .i32 (r : Int)] w fun e w' => e = .returned (.bool x) ∧ w = w' := by
  have h : (r = 32 ∨ r = 9 ∨ r = 13 ∨ r = 10) ∧ x = true ∨ ((r : Int) ≠ 32 ∧ (r : Int) ≠ 9 ∧ (r : Int) ≠ 13 ∧ (r : Int) ≠ 10) ∧ x = false := by
    unfold isSpN at hx
    by_cases h : r = 32 ∨ r = 9 ∨ r = 13 ∨ r = 10
    · refine .inl ⟨h, ?_⟩
      rw [← hx]
      rcases h with rfl | rfl | rfl | rfl <;> rfl
    · refine .inr ⟨by omega, ?_⟩
      rw [← hx]
      simp
      omega
  clear hx
  rcases h with ⟨h, rfl⟩ | ⟨⟨h1, h2, h3, h4⟩, rfl⟩
  · rcases h with rfl | rfl | rfl | rfl
    all_goals
      go_enter Tryd.func40, Tryd.ntmps40
      go_wp2
      go_ret
      exact ⟨rfl, rfl⟩
  · have e1 : ((r : Int) == 32) = false := by simpa using h1
    have e2 : ((r : Int) == 9) = false := by simpa using h2
    have e3 : ((r : Int) == 13) = false := by simpa using h3
    have e4 : ((r : Int) == 10) = false := by simpa using h4
    clear h1 h2 h3 h4
    go_enter Tryd.func40, Tryd.ntmps40
    go_wp2
    go_ret
    exact ⟨rfl, rfl⟩

set_option maxRecDepth 100000 in
theorem isExcluded_any (P cx : Nat) (ad : Option Addr) (r : Int) (w : World) (h : w.cell? ⟨P, 3, none⟩ = some (.slice ad 0 cx)) :
    Calls Tryd.prog 39 #[.pointer (some ⟨P, 0, none⟩), .int .i32 r] w fun e w' => e = .returned (.bool false) ∧ w = w' := by
  go_enter Tryd.func39, Tryd.ntmps39
  go_wp2
  go_loopg [12] 0 (fun c iv wr => iv = .int .i64 0 ∧ w = wr)
  case atStart => exact ⟨rfl, rfl⟩
  case round =>
    obtain ⟨rfl, rfl⟩ := hrel
    go_wp2
    go_ret
    exact ⟨rfl, rfl⟩

/-- no variables: the value of each name is empty -/
theorem getenv_any (O : Nat) (name : ByteArray) (w : World) (h : w.cell? ⟨O, 2, none⟩ = some (.slice none 0 0)) :
    Calls Tryd.prog 36 #[.string name, .pointer (some ⟨O, 0, none⟩)] w fun e w' => e = .returned (.string ⟨#[]⟩) ∧ w = w' := by
  go_enter Tryd.func36, Tryd.ntmps36
  go_wp2
  go_loopg [4, 10] 0 (fun c vv iv wr => vv = .string ⟨#[]⟩ ∧ iv = .int .i64 0 ∧ w = wr)
  case atStart => exact ⟨rfl, rfl, rfl⟩
  case round =>
    obtain ⟨rfl, rfl, rfl⟩ := hrel
    go_wp2
    go_ret
    exact ⟨rfl, rfl⟩
end Go.Proofs.YtcjfcjlendibpaaDoor
