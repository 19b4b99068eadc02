/- A translator's patterns as plain data: how a pattern's next range is read, how the second pattern goes on, how single characters and ranges are kept. No program is in sight here. -/
import Derived.Test.YtdgaehkfdaacjaaDoorPlain
set_option linter.unusedVariables false
namespace Go.Proofs.YtdgaehkfdaacjaaDoor.Plain
open Go.Lib

def rnsL (l : List UInt8) : List Nat := (segs l).map runeOf
/-- the next range of a pattern: what is left, where it starts and ends (-1: it is a single character at the pattern's end), and its step (0: a single character) -/
def nrrG : List Nat → Int → Bool → Bool → List Nat × Int × Int × Int
  | [], last, _, _ => ([], if last = -1 then 65533 else last, -1, 0)
  | r :: t, last, esc, isR =>
    if esc = false ∧ r = 92 then nrrG t last true isR
    else if esc = false ∧ r = 45 then (if last = -1 then nrrG t last false isR else nrrG t last false true)
    else if last = -1 then nrrG t r false isR
    else if isR = true ∧ last = r then nrrG t last false false
    else (t, last, r, if isR = true then (if last < r then 1 else -1) else 0)
def nrr (p : List Nat) (last : Int) : List Nat × Int × Int × Int := nrrG p last false false
/-- what is always true of a range that was read -/
structure NrrOk (x : List Nat × Int × Int × Int) : Prop where
  rs : ∀ r ∈ x.1, r ≤ 1114111
  s0 : 0 ≤ x.2.1
  s1 : x.2.1 ≤ 1114111
  e0 : -1 ≤ x.2.2.1
  e1 : x.2.2.1 ≤ 1114111
  st : x.2.2.2 = 0 ∨ x.2.2.2 = 1 ∧ x.2.1 < x.2.2.1 ∨ x.2.2.2 = -1 ∧ x.2.2.1 < x.2.1 ∧ 0 ≤ x.2.2.1
theorem nrrG_ok : ∀ (p : List Nat) (last : Int) (esc isR : Bool), (∀ r ∈ p, r ≤ 1114111) → -1 ≤ last → last ≤ 1114111 → NrrOk (nrrG p last esc isR)
  | [], last, esc, isR, hp, h0, h1 => by
    unfold nrrG
    refine ⟨by simp, ?_, ?_, by simp, by simp, by simp⟩
    · show (0 : Int) ≤ if last = -1 then 65533 else last
      split <;> omega
    · show (if last = -1 then 65533 else last) ≤ 1114111
      split <;> omega
  | r :: t, last, esc, isR, hp, h0, h1 => by
    have hr : r ≤ 1114111 := hp r List.mem_cons_self
    have ht : ∀ r ∈ t, r ≤ 1114111 := fun x hx => hp x (List.mem_cons_of_mem _ hx)
    unfold nrrG
    split
    · exact nrrG_ok t last _ _ ht h0 h1
    · split
      · split
        · exact nrrG_ok t last _ _ ht h0 h1
        · exact nrrG_ok t last _ _ ht h0 h1
      · split
        · exact nrrG_ok t r _ _ ht (by omega) (by omega)
        · split
          · exact nrrG_ok t last _ _ ht h0 h1
          · rename_i h2 h3
            refine ⟨ht, ?_, h1, ?_, ?_, ?_⟩
            · show 0 ≤ last; omega
            · show (-1 : Int) ≤ r; omega
            · show (r : Int) ≤ 1114111; omega
            · show (if isR = true then (if last < (r : Int) then (1 : Int) else -1) else 0) = 0 ∨ (if isR = true then (if last < (r : Int) then (1 : Int) else -1) else 0) = 1 ∧ last < (r : Int) ∨ (if isR = true then (if last < (r : Int) then (1 : Int) else -1) else 0) = -1 ∧ (r : Int) < last ∧ (0 : Int) ≤ r
              cases isR with
              | false => exact .inl rfl
              | true =>
                by_cases h : last < (r : Int)
                · simp [h]
                · have : last ≠ (r : Int) := fun e => h3 ⟨rfl, e⟩
                  simp [h]
                  omega
theorem nrr_ok {p : List Nat} {last : Int} (hp : ∀ r ∈ p, r ≤ 1114111) (h0 : -1 ≤ last) (h1 : last ≤ 1114111) : NrrOk (nrr p last) := nrrG_ok p last _ _ hp h0 h1
theorem nrrG_len : ∀ (p : List Nat) (last : Int) (esc isR : Bool), (nrrG p last esc isR).1.length ≤ p.length ∧ (p ≠ [] → (nrrG p last esc isR).1.length < p.length)
  | [], last, esc, isR => ⟨by simp [nrrG], fun h => absurd rfl h⟩
  | r :: t, last, esc, isR => by
    have key : (nrrG (r :: t) last esc isR).1.length ≤ t.length := by
      unfold nrrG
      split
      · exact (nrrG_len t _ _ _).1
      · split
        · split
          · exact (nrrG_len t _ _ _).1
          · exact (nrrG_len t _ _ _).1
        · split
          · exact (nrrG_len t _ _ _).1
          · split
            · exact (nrrG_len t _ _ _).1
            · exact Nat.le_refl _
    exact ⟨by simp; omega, fun _ => by simp; omega⟩

/-! ### the machine -/
/-- the state of the reading of two patterns: the first pattern's rest, its range's start, end and step; the same of the second one -/
structure NT where
  fr : List Nat
  fs : Int
  fe : Int
  fst : Int
  tp : List Nat
  ts : Int
  te : Int
  tst : Int
/-- what is kept: what single characters become, the ranges, all characters that were single ones -/
structure TD where
  S : Int → Option Int
  R : List (Int × Int × Int × Int)
  sg : List Int
def upd (x : NT) : NT :=
  if x.te = -1 then x
  else if x.tst = 0 then { x with tp := (nrr x.tp x.te).1, ts := (nrr x.tp x.te).2.1, te := (nrr x.tp x.te).2.2.1, tst := (nrr x.tp x.te).2.2.2 }
  else if x.ts ≠ x.te then { x with ts := x.ts + x.tst }
  else if x.tp = [] then { x with te := -1 }
  else { x with tp := (nrr x.tp (-1)).1, ts := (nrr x.tp (-1)).2.1, te := (nrr x.tp (-1)).2.2.1, tst := (nrr x.tp (-1)).2.2.2 }
def put (d : TD) (a b : Int) : TD := ⟨fun r => if r = a then some b else d.S r, d.R, d.sg ++ [a]⟩
def rng (a b c e : Int) : Int × Int × Int × Int := if a < b then (a, b, c, e) else (b, a, e, c)
def putR (d : TD) (a b c e : Int) : TD :=
  ⟨fun r => if r ∈ d.sg ∧ (rng a b c e).1 ≤ r ∧ r ≤ (rng a b c e).2.1 then none else d.S r, d.R ++ [rng a b c e], d.sg⟩
/-- one round of the inner loop (both ranges have characters left); true: it goes on -/
def innS (x : NT) (d : TD) : NT × TD × Bool :=
  if x.tst = 0 then
    (if x.fs + x.fst = x.fe then (upd { upd x with fs := x.fs + x.fst }, put (put d x.fs x.ts) (x.fs + x.fst) (upd x).ts, true) else ({ upd x with fs := x.fs + x.fst }, put d x.fs x.ts, true))
  else if (x.te - x.ts) * x.tst < (x.fe - x.fs) * x.fst then
    (if x.fs + (x.te - x.ts) * x.tst * x.fst + x.fst = x.fe then
      (upd (upd { x with fs := x.fs + (x.te - x.ts) * x.tst * x.fst + x.fst, ts := x.te }), put (putR d x.fs (x.fs + (x.te - x.ts) * x.tst * x.fst) x.ts x.te) (x.fs + (x.te - x.ts) * x.tst * x.fst + x.fst) (upd { x with fs := x.fs + (x.te - x.ts) * x.tst * x.fst + x.fst, ts := x.te }).ts, true)
    else (upd { x with fs := x.fs + (x.te - x.ts) * x.tst * x.fst + x.fst, ts := x.te }, putR d x.fs (x.fs + (x.te - x.ts) * x.tst * x.fst) x.ts x.te, true))
  else (upd { x with fs := x.fe, ts := x.ts + (x.fe - x.fs) * x.fst * x.tst }, putR d x.fs x.fe x.ts (x.ts + (x.fe - x.fs) * x.fst * x.tst), false)
def innF : Nat → NT → TD → NT × TD
  | 0, x, d => (x, d)
  | g + 1, x, d => if x.te ≠ -1 ∧ x.fs ≠ x.fe then (if (innS x d).2.2 = true then innF g (innS x d).1 (innS x d).2.1 else ((innS x d).1, (innS x d).2.1)) else (x, d)
def finS (x : NT) (d : TD) : NT × TD := if x.fs = x.fe then ({ x with fe := -1 }, d) else ({ x with fe := -1 }, putR d x.fs x.fe x.ts x.ts)
def rdS (x : NT) : NT := { x with fr := (nrr x.fr x.fe).1, fs := (nrr x.fr x.fe).2.1, fe := (nrr x.fr x.fe).2.2.1, fst := (nrr x.fr x.fe).2.2.2 }
def outS (x : NT) (d : TD) : NT × TD :=
  if (rdS x).fst = 0 then (upd (rdS x), put d (rdS x).fs (rdS x).ts) else finS (innF 3000000 (rdS x) d).1 (innF 3000000 (rdS x) d).2
def outF : Nat → NT → TD → NT × TD
  | 0, x, d => (x, d)
  | g + 1, x, d => if x.fr = [] then (x, d) else outF g (outS x d).1 (outS x d).2
/-- what a pair of patterns comes to: what is kept, and the second pattern's last character -/
def trEnd (x : NT) (d : TD) : TD × Int := (if x.fe ≠ -1 then put d x.fe x.ts else d, x.ts)
def lastD (x : Int) : List Nat → Int
  | [] => x
  | r :: t => lastD r t
def nt0 (fr t : List Nat) (rev del : Bool) : NT :=
  if del = true then ⟨fr, 0, -1, 0, t, 65533, -1, 0⟩ else if rev = true then ⟨fr, 0, -1, 0, [], lastD 0 t, -1, 0⟩ else ⟨fr, 0, -1, 0, (nrr t (-1)).1, (nrr t (-1)).2.1, (nrr t (-1)).2.2.1, (nrr t (-1)).2.2.2⟩
def td0 : TD := ⟨fun _ => none, [], []⟩
/-- the translator of two patterns: what is kept; the character for all that match; all but those; without them -/
def ntr (fr t : List Nat) (rev del : Bool) : TD × Int := trEnd (outF fr.length (nt0 fr t rev del) td0).1 (outF fr.length (nt0 fr t rev del) td0).2
end Go.Proofs.YtdgaehkfdaacjaaDoor.Plain
