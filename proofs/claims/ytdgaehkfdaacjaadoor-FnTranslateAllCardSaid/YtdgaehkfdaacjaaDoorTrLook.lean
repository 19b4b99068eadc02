/- What a translator answers for a character, as plain data. -/
import Derived.Test.YtdgaehkfdaacjaaDoorTrLaw
set_option linter.unusedVariables false
namespace Go.Proofs.YtdgaehkfdaacjaaDoor.Plain

/-- what a range makes of a character in it -/
def rval (x : Int × Int × Int × Int) (r : Int) : Int := if x.2.2.1 < x.2.2.2 then x.2.2.1 + r - x.1 else if x.2.2.1 > x.2.2.2 then x.2.2.1 - r + x.1 else x.2.2.1
/-- the last of the first 'k' ranges that has a character -/
def rl (R : List (Int × Int × Int × Int)) : Nat → Int → Option Int
  | 0, _ => none
  | k + 1, r => match R[k]? with
    | some x => if x.1 ≤ r ∧ r ≤ x.2.1 then some (rval x r) else rl R k r
    | none => rl R k r
theorem rl_in {R : List (Int × Int × Int × Int)} {k : Nat} {r : Int} {x : Int × Int × Int × Int} (h : R[k]? = some x) (h1 : x.1 ≤ r ∧ r ≤ x.2.1) : rl R (k + 1) r = some (rval x r) := by
  simp only [rl, h, if_pos h1]
theorem rl_out {R : List (Int × Int × Int × Int)} {k : Nat} {r : Int} {x : Int × Int × Int × Int} (h : R[k]? = some x) (h1 : ¬ (x.1 ≤ r ∧ r ≤ x.2.1)) : rl R (k + 1) r = rl R k r := by
  simp only [rl, h, if_neg h1]
def tlook (d : TD) (r : Int) : Option Int := match d.S r with
  | some c => some c
  | none => rl d.R d.R.length r
/-- what becomes of a character; it matches; it is deleted -/
def trR (d : TD) (fl : Int × Bool × Bool × Bool) (r : Nat) : Int × Bool × Bool :=
  match tlook d (r : Int) with
  | some c => if fl.2.1 = true then ((r : Int), false, false) else (if 0 ≤ fl.1 then fl.1 else c, true, fl.2.2.1)
  | none => if fl.2.1 = true then (fl.1, true, fl.2.2.1) else ((r : Int), false, false)
/-- all that is kept are characters -/
def DOk (d : TD) : Prop := (∀ r c, d.S r = some c → 0 ≤ c ∧ c ≤ 1114111) ∧ ∀ x ∈ d.R, 0 ≤ x.1 ∧ x.1 ≤ 1114111 ∧ 0 ≤ x.2.1 ∧ x.2.1 ≤ 1114111 ∧ 0 ≤ x.2.2.1 ∧ x.2.2.1 ≤ 1114111 ∧ 0 ≤ x.2.2.2 ∧ x.2.2.2 ≤ 1114111
end Go.Proofs.YtdgaehkfdaacjaaDoor.Plain
