/- FnRuneWidth: the width of every rune that the code tells is the one of the reference, between 0 and 2; no condition. -/
import Derived.Test.YtobcoplfniojkaaPFnRuneWidthx1
namespace Go.Proofs.Ytobcoplfniojkaa.Pure
open Go.RowKit Go.Proofs.Ytobcoplfniojkaa.PFnRuneWidth Go.Proofs.YtobcoplfniojkaaW.PrintWords Go.Proofs.YtobcoplfniojkaaW.PrintLast

def rw (c : Int) : Int := if c = 65533 ∨ c < 32 then 0 else if c < 8192 then 1 else if c < 65377 then 2 else if c < 65440 then 1 else 2

theorem rw_eq (c : Int) : impl_RuneWidth.f 10 c = some (rw c) := by
  unfold impl_RuneWidth.f xstrings_RuneWidth.f rw
  simp only [xstrings_RuneWidth.j0, xstrings_RuneWidth.j1, xstrings_RuneWidth.j2, xstrings_RuneWidth.j3, decide_eq_true_eq, if_true, Bool.false_eq_true, if_false]
  repeat' split
  all_goals first
    | rfl
    | (exfalso; omega)

def sw (c : Int) : Int × Int := if c < 0 ∨ 1114111 < c ∨ (55296 ≤ c ∧ c ≤ 57343) ∨ c = 65533 ∨ (26 ≤ c ∧ c ≤ 31) then (0, 2) else if c ≤ 25 then (0, 1) else if c ≤ 8191 then (1, 1) else if 65377 ≤ c ∧ c ≤ 65439 then (1, 1) else (2, 1)

theorem sw_eq (c : Int) : spec_RuneWidth.f 10 c = some (sw c) := by
  unfold spec_RuneWidth.f sw
  simp only [spec_RuneWidth.j0, decide_eq_true_eq, if_true, Bool.false_eq_true, if_false]
  repeat' split
  all_goals first
    | rfl
    | (exfalso; omega)

theorem FnRuneWidth : laws_FnRuneWidth.Pure := by
  intro c _hw
  refine ⟨10, ?_⟩
  unfold laws_FnRuneWidth.f
  rw [rw_eq, rw_eq, sw_eq]
  simp only [Option.bind_some]
  rw [if_pos (by unfold rw; rfl)]
  by_cases h0 : c < 0
  · rw [if_pos h0]
  · rw [if_neg h0]
    have h1 : 0 ≤ rw c ∧ rw c ≤ 2 := by unfold rw; (repeat' split) <;> omega
    rw [if_pos (by omega), if_pos h1.2]
    split
    · rename_i h
      have : rw c = (sw c).1 := by
        unfold sw at h ⊢
        unfold rw
        (repeat' split at h) <;> (repeat' split) <;> first | rfl | (exfalso; omega) | simp at h
      simp [this]
    · rfl

end Go.Proofs.Ytobcoplfniojkaa.Pure
