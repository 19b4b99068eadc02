/- What a text is as a number: the library's reading and the reference's, in plain Lean. -/
import Derived.Lib.ParseIntB
namespace Go.Proofs.YtmmgjajclhhacaaDoor
open Go.Lib

/-- digits of a number that is at most M, behind n -/
def numF (M : Nat) : Nat → List UInt8 → Option Nat
  | n, [] => some n
  | n, c :: r => if (48 ≤ c.toNat ∧ c.toNat ≤ 57) ∧ 10 * n + (c.toNat - 48) ≤ M then numF M (10 * n + (c.toNat - 48)) r else none
def numB (M : Nat) (l : List UInt8) : Option Nat := if l = [] then none else numF M 0 l
def okN {α : Type} : NumEnd α → Option α
  | .ok u => some u
  | _ => none
theorem okN_M (M : Nat) (hM : M ≤ 18446744073709551615) : ∀ (l : List UInt8) (acc : Nat), okN (parseUintM M acc l) = numF M acc l := by
  intro l
  induction l with
  | nil => intro acc; rfl
  | cons c r ih =>
    intro acc
    unfold parseUintM numF
    by_cases hd : 48 ≤ c.toNat ∧ c.toNat ≤ 57
    · rw [if_pos hd]
      by_cases h1 : 1844674407370955162 ≤ acc
      · rw [if_pos h1, if_neg (by omega)]; rfl
      · rw [if_neg h1]
        by_cases h2 : M < acc * 10 + (c.toNat - 48)
        · rw [if_pos h2, if_neg (by omega)]; rfl
        · rw [if_neg h2, if_pos ⟨hd, by omega⟩, ih, Nat.mul_comm]
    · rw [if_neg hd, if_neg (by intro h; exact hd h.1)]; rfl
theorem numF_ge (M : Nat) : ∀ (l : List UInt8) (acc u : Nat), numF M acc l = some u → acc ≤ u := by
  intro l
  induction l with
  | nil => intro acc u h; injection h with h; omega
  | cons c r ih =>
    intro acc u h
    unfold numF at h
    split at h
    · have := ih _ _ h; omega
    · cases h
theorem numF_le (M : Nat) : ∀ (l : List UInt8) (acc u : Nat), acc ≤ M → numF M acc l = some u → u ≤ M := by
  intro l
  induction l with
  | nil => intro acc u ha h; injection h with h; omega
  | cons c r ih =>
    intro acc u ha h
    unfold numF at h
    split at h
    · rename_i hc; exact ih _ _ hc.2 h
    · cases h
theorem numF_cut (M M' : Nat) (hm : M' ≤ M) : ∀ (l : List UInt8) (acc : Nat), acc ≤ M' → numF M' acc l = (numF M acc l).bind fun u => if u ≤ M' then some u else none := by
  intro l
  induction l with
  | nil => intro acc ha; simp [numF, ha]
  | cons c r ih =>
    intro acc ha
    unfold numF
    by_cases h1 : (48 ≤ c.toNat ∧ c.toNat ≤ 57) ∧ 10 * acc + (c.toNat - 48) ≤ M'
    · rw [if_pos h1, if_pos ⟨h1.1, by omega⟩]
      exact ih _ h1.2
    · rw [if_neg h1]
      by_cases h2 : (48 ≤ c.toNat ∧ c.toNat ≤ 57) ∧ 10 * acc + (c.toNat - 48) ≤ M
      · rw [if_pos h2]
        cases h3 : numF M (10 * acc + (c.toNat - 48)) r with
        | none => rfl
        | some u =>
          have := numF_ge M r _ u h3
          have h4 : ¬ u ≤ M' := fun h => h1 ⟨h2.1, by omega⟩
          simp [h4]
      · rw [if_neg h2]; rfl
theorem okN_B (B : Nat) (hB : B ≤ 64) (l : List UInt8) : okN (parseUintB B l) = numB (2 ^ B - 1) l := by
  unfold parseUintB numB
  split
  · rfl
  · refine okN_M _ ?_ l 0
    have : 2 ^ B ≤ 2 ^ 64 := Nat.pow_le_pow_right (by decide) hB
    omega
/-- a text as a number of B bits with a sign or none -/
def intB (B : Nat) (l : List UInt8) : Option Int :=
  match l with
  | [] => none
  | c :: r =>
    if c.toNat = 45 then (numB (2 ^ (B - 1)) r).map fun (u : Nat) => -(u : Int)
    else (numB (2 ^ (B - 1) - 1) (if c.toNat = 43 then r else c :: r)).map fun (u : Nat) => (u : Int)
theorem numB_cut (M M' : Nat) (hm : M' ≤ M) (l : List UInt8) : numB M' l = (numB M l).bind fun u => if u ≤ M' then some u else none := by
  unfold numB
  split
  · rfl
  · exact numF_cut M M' hm l 0 (Nat.zero_le _)
theorem okN_I (B : Nat) (hB : B ≤ 64) (hB1 : 1 ≤ B) (l : List UInt8) : okN (parseIntB B l) = intB B l := by
  cases l with
  | nil => rfl
  | cons c r =>
    have hp : 0 < 2 ^ (B - 1) := Nat.two_pow_pos _
    have h2 : 2 ^ B = 2 * 2 ^ (B - 1) := by
      obtain ⟨k, rfl⟩ : ∃ k, B = k + 1 := ⟨B - 1, by omega⟩
      rw [Nat.add_sub_cancel, Nat.pow_succ]; omega
    unfold parseIntB intB
    dsimp only
    by_cases hn : c.toNat = 45
    · rw [if_pos hn, if_pos (Or.inr hn)]
      have hk := okN_B B hB r
      rw [numB_cut (2 ^ B - 1) (2 ^ (B - 1)) (by omega), ← hk]
      cases hu : parseUintB B r with
      | ok u =>
        simp only [okN, hn, not_true_eq_false, false_and, if_false, true_and, Option.bind_some, if_true]
        by_cases hlt : 2 ^ (B - 1) < u
        · rw [if_pos hlt, if_neg (by omega)]; rfl
        · rw [if_neg hlt, if_pos (by omega)]; rfl
      | range => rfl
      | _ => rfl
    · rw [if_neg hn]
      have hk := okN_B B hB (if c.toNat = 43 then r else c :: r)
      rw [numB_cut (2 ^ B - 1) (2 ^ (B - 1) - 1) (by omega), ← hk]
      have hc : (if c.toNat = 43 ∨ c.toNat = 45 then r else c :: r) = (if c.toNat = 43 then r else c :: r) := by simp [hn]
      rw [hc]
      cases hu : parseUintB B (if c.toNat = 43 then r else c :: r) with
      | ok u =>
        simp only [okN, hn, not_false_eq_true, false_and, if_false, true_and, Option.bind_some]
        by_cases hlt : 2 ^ (B - 1) ≤ u
        · rw [if_pos hlt, if_neg (by omega)]; rfl
        · rw [if_neg hlt, if_pos (by omega)]; rfl
      | range => rfl
      | _ => rfl
end Go.Proofs.YtmmgjajclhhacaaDoor
