/- What spec.Pattern computes, without a program. -/
import Derived.Test.YtdgaehkfdaacjaaDoorTrLaw
set_option linter.unusedVariables false
namespace Go.Proofs.YtdgaehkfdaacjaaDoor.Plain

/-- the characters behind 'a', 'k' of them, up or down; none: there is half of a surrogate pair among them -/
def rngF (up : Bool) : Nat → Nat → List Nat → Option (List Nat)
  | 0, _, L => some L
  | k + 1, a, L => if 55296 ≤ (if up then a + 1 else a - 1) ∧ (if up then a + 1 else a - 1) ≤ 57343 then none else rngF up k (if up then a + 1 else a - 1) (L ++ [if up then a + 1 else a - 1])
def spc (d : Nat) : Bool := d == 92 || d == 45 || d == 94
/-- how far 'a' is from 'd', up or down -/
def dst (up : Bool) (a d : Nat) : Nat := if up then d - a else a - d
theorem dst_start (a d : Nat) : (if a < d then d - a else a - d) = dst (decide (a < d)) a d := by
  unfold dst
  by_cases h : a < d <;> simp [h]
theorem dst_zero (up : Bool) (a : Nat) : dst up a a = 0 := by unfold dst; cases up <;> simp
theorem rng_up_bad {a d : Nat} (K : List Nat) (h : a < d) (h1 : 55296 ≤ a + 1) (h2 : a + 1 ≤ 57343) : rngF true (dst true a d) a K = none := by
  obtain ⟨k, hk⟩ : ∃ k, dst true a d = k + 1 := ⟨d - a - 1, by unfold dst; simp; omega⟩
  rw [hk]; simp [rngF]; omega
theorem rng_dn_bad {a d : Nat} (K : List Nat) (h : d < a) (h1 : 55296 ≤ a - 1) (h2 : a - 1 ≤ 57343) : rngF false (dst false a d) a K = none := by
  obtain ⟨k, hk⟩ : ∃ k, dst false a d = k + 1 := ⟨a - d - 1, by unfold dst; simp; omega⟩
  rw [hk]; simp [rngF]; omega
theorem rng_up {a d : Nat} (K : List Nat) (h : a < d) (h1 : ¬ (55296 ≤ a + 1 ∧ a + 1 ≤ 57343)) : rngF true (dst true a d) a K = rngF true (dst true (a + 1) d) (a + 1) (K ++ [a + 1]) := by
  have hk : dst true a d = dst true (a + 1) d + 1 := by unfold dst; simp; omega
  rw [hk, rngF]
  simp only [if_true]
  rw [if_neg h1]
theorem rng_dn {a d : Nat} (K : List Nat) (h : d < a) (h1 : ¬ (55296 ≤ a - 1 ∧ a - 1 ≤ 57343)) : rngF false (dst false a d) a K = rngF false (dst false (a - 1) d) (a - 1) (K ++ [a - 1]) := by
  have hk : dst false a d = dst false (a - 1) d + 1 := by unfold dst; simp; omega
  rw [hk, rngF]
  simp only [Bool.false_eq_true, if_false]
  rw [if_neg h1]
/-- what a pattern lists -/
def patF (tob nt : Bool) : List Nat → Bool → Bool → List Nat → Option (List Nat)
  | [], _, _, L => some L
  | [c], first, single, L => if c = 92 then none else if c = 45 then none else if c = 94 ∧ (first = false ∨ nt = true) ∧ tob = false then some (L ++ [c]) else some (L ++ [c])
  | c :: d :: q, first, single, L =>
    if c = 92 then (if spc d = false then none else if q.head? = some 45 then none else patF tob nt q false false (L ++ [d]))
    else if c = 45 then
      (if single = false ∨ spc d = true then none else
        if (L.getLastD 0 : Int) - d > 5000 ∨ (d : Int) - L.getLastD 0 > 5000 then none else
        match rngF (decide (L.getLastD 0 < d)) (if L.getLastD 0 < d then d - L.getLastD 0 else L.getLastD 0 - d) (L.getLastD 0) L with
        | none => none
        | some L' => if q.head? = some 45 then none else patF tob nt q false false L')
    else if c = 94 ∧ (first = false ∨ nt = true) ∧ tob = false then (if d = 45 then none else patF tob nt (d :: q) false false (L ++ [c]))
    else patF tob nt (d :: q) false true (L ++ [c])
/-- what a pattern says -/
def patS (tob : Bool) (p : List Nat) : Option (List Nat × Bool) :=
  if p.head? = some 94 ∧ tob = false then (if p.tail = [] then none else (patF tob true p.tail true false []).map fun L => (L, true))
  else (patF tob false p true false []).map fun L => (L, false)
section
variable (tob nt : Bool) (f sg : Bool) (K : List Nat)
theorem pat_esc0 : patF tob nt [92] f sg K = none := by simp [patF]
theorem pat_esc1 {d : Nat} (q : List Nat) (h : spc d = false) : patF tob nt (92 :: d :: q) f sg K = none := by simp [patF, h]
theorem pat_esc2 {d : Nat} (q : List Nat) (hq : q.head? = some 45) : patF tob nt (92 :: d :: q) f sg K = none := by simp [patF, hq]
theorem pat_esc3 {d : Nat} (q : List Nat) (h : spc d = true) (hq : q.head? ≠ some 45) : patF tob nt (92 :: d :: q) f sg K = patF tob nt q false false (K ++ [d]) := by simp [patF, h, hq]
theorem pat_min0 : patF tob nt [45] f sg K = none := by simp [patF]
theorem pat_min1 {d : Nat} (q : List Nat) (h : sg = false ∨ spc d = true) : patF tob nt (45 :: d :: q) f sg K = none := by
  rw [patF, if_neg (by decide), if_pos rfl, if_pos h]
theorem pat_min2 {d : Nat} (q : List Nat) (h : (K.getLastD 0 : Int) - d > 5000 ∨ (d : Int) - K.getLastD 0 > 5000) : patF tob nt (45 :: d :: q) f sg K = none := by
  rw [patF, if_neg (by decide), if_pos rfl]
  split <;> first | rfl | rw [if_pos h]
theorem pat_min3 {d : Nat} (q : List Nat) (h0 : ¬ (sg = false ∨ spc d = true)) (h : ¬ ((K.getLastD 0 : Int) - d > 5000 ∨ (d : Int) - K.getLastD 0 > 5000)) :
    patF tob nt (45 :: d :: q) f sg K = match rngF (decide (K.getLastD 0 < d)) (if K.getLastD 0 < d then d - K.getLastD 0 else K.getLastD 0 - d) (K.getLastD 0) K with
      | none => none
      | some L' => if q.head? = some 45 then none else patF tob nt q false false L' := by
  rw [patF, if_neg (by decide), if_pos rfl, if_neg h0, if_neg h]
theorem pat_hat0 (q : List Nat) (h : (f = false ∨ nt = true) ∧ tob = false) (hq : q.head? = some 45) : patF tob nt (94 :: q) f sg K = none := by
  cases q with
  | nil => cases hq
  | cons d q =>
    obtain rfl : d = 45 := by simpa using hq
    rw [patF, if_neg (by decide), if_neg (by decide), if_pos ⟨rfl, h⟩, if_pos rfl]
theorem pat_hat1 (q : List Nat) (h : (f = false ∨ nt = true) ∧ tob = false) (hq : q.head? ≠ some 45) : patF tob nt (94 :: q) f sg K = patF tob nt q false false (K ++ [94]) := by
  cases q with
  | nil => simp [patF]
  | cons d q =>
    rw [patF, if_neg (by decide), if_neg (by decide), if_pos ⟨rfl, h⟩, if_neg (fun e => hq (by simp [e]))]
theorem pat_one {c : Nat} (q : List Nat) (h1 : c ≠ 92) (h2 : c ≠ 45) (h : ¬ (c = 94 ∧ (f = false ∨ nt = true) ∧ tob = false)) : patF tob nt (c :: q) f sg K = patF tob nt q false true (K ++ [c]) := by
  cases q with
  | nil => simp [patF, h1, h2]
  | cons d q => rw [patF, if_neg h1, if_neg h2, if_neg h]
end
end Go.Proofs.YtdgaehkfdaacjaaDoor.Plain
