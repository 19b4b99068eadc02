/- Plain laws on shellwords.Parse: the reading of a line, character by character. No program is in sight here. -/
import Derived.Test.YtcjfcjlendibpaaDoorPlain
namespace Go.Proofs.YtcjfcjlendibpaaDoor.Plain
open Go.Lib

def encN (r : Nat) : List UInt8 := encodeRune (r : Int)
/-- what is known of a line that is being read: the words, the word that has begun, escaped, the four kinds of quotes, a comment, how the word has begun, whether it was quoted, a dollar sign right ahead -/
structure PS where
  a : List (List UInt8)
  b : List UInt8
  esc : Bool
  dq : Bool
  sq : Bool
  bq : Bool
  dl : Bool
  cm : Bool
  g : Nat
  tq : Bool
  ad : Bool
inductive PR
  | go (s : PS)
  | err
  | stop (s : PS) (d : Nat)
def pinit : PS := ⟨[], [], false, false, false, false, false, false, 0, false, false⟩
def isSpN (r : Nat) : Bool := r == 32 || r == 9 || r == 13 || r == 10
def isSepN (r : Nat) : Bool := r == 59 || r == 38 || r == 124 || r == 60 || r == 62
def PS.qd (s : PS) : Bool := s.sq || s.dq || s.bq || s.dl
def digs (b : List UInt8) : Bool := b.all fun c => decide (48 ≤ c.toNat) && decide (c.toNat ≤ 57)
def flA (a : List (List UInt8)) (b : List UInt8) (g : Nat) : List (List UInt8) := if g == 2 || (g != 0 && !b.isEmpty) then a ++ [b] else a
def PS.flush (s : PS) : PS := { s with a := flA s.a s.b s.g, b := [], g := 0, tq := false }
def PS.put (s : PS) (r : Nat) : PS := { s with b := s.b ++ encN r, g := 1, ad := r == 36 && !(s.sq || s.dq || s.bq || s.dl) }
def escR (r : Nat) : Nat := if r = 116 then 9 else if r = 110 then 10 else r
def pstep (cmt : Bool) (r : Nat) (s0 : PS) : PR :=
  let s : PS := { s0 with ad := false }
  if s.cm then .go (if r = 10 then { s with cm := false, tq := false } else s)
  else if s.esc then
    if s.bq || s.dl then .go { s with esc := false, tq := true, b := s.b ++ [92] ++ encN r, g := 1 }
    else .go { s with esc := false, tq := true, b := s.b ++ encN (escR r), g := 1 }
  else if r = 92 then .go (if s.sq then { s with b := s.b ++ [92] } else { s with esc := true })
  else if isSpN r then .go (if s.qd then { s with b := s.b ++ [UInt8.ofNat r] } else s.flush)
  else if r = 96 then .go ((if !s.sq && !s.dq && !s.dl then { s with bq := !s.bq } else s).put r)
  else if r = 41 ∧ (!s.sq && !s.dq && !s.bq) = true then (if s.dl then .go { s with b := s.b ++ [41], dl := false, g := 1 } else .err)
  else if r = 40 ∧ (!s.sq && !s.dq && !s.bq) = true then (if !s.dl && s0.ad then .go { s with dl := true, b := s.b ++ [40] } else .err)
  else if r = 34 ∧ (!s.sq && !s.dl && !s.bq) = true then .go { s with g := if s.dq then 2 else s.g, dq := !s.dq, tq := true }
  else if r = 39 ∧ (!s.dq && !s.dl && !s.bq) = true then .go { s with g := if s.sq then 2 else s.g, sq := !s.sq, tq := true }
  else if isSepN r && !s.qd then
    if r = 62 ∧ (!s.b.isEmpty && !s.tq && digs s.b) = true then .stop { s with g := 0 } s.b.length else .stop s 0
  else if r = 35 ∧ (cmt && s.g == 0 && !s.qd) = true then .go { s with cm := true }
  else .go (s.put r)
abbrev PA := Option (List (List UInt8) × Int)
def pend (s : PS) (pos : Int) : PA := if s.esc || s.sq || s.dq || s.bq || s.dl then none else some (flA s.a s.b s.g, pos)
def prun (cmt : Bool) : Nat → List Nat → PS → PA
  | _, [], s => pend s (-1)
  | i, r :: l, s => match pstep cmt r s with
    | .go t => prun cmt (i + 1) l t
    | .err => none
    | .stop t d => pend t ((i : Int) - d)
/-- the words of a text's characters -/
def words (cmt : Bool) (l : List Nat) : PA := prun cmt 0 l pinit

/-! ### one step, case by case -/
theorem prun_go {cmt : Bool} {i r : Nat} {l : List Nat} {s t : PS} {A : PA} (h : pstep cmt r s = .go t) (k : prun cmt i (r :: l) s = A) : prun cmt (i + 1) l t = A := by rw [prun, h] at k; exact k
theorem prun_err {cmt : Bool} {i r : Nat} {l : List Nat} {s : PS} {A : PA} (h : pstep cmt r s = .err) (k : prun cmt i (r :: l) s = A) : A = none := by rw [prun, h] at k; exact k.symm
theorem prun_stop {cmt : Bool} {i r d : Nat} {l : List Nat} {s t : PS} {A : PA} (h : pstep cmt r s = .stop t d) (k : prun cmt i (r :: l) s = A) : pend t ((i : Int) - d) = A := by rw [prun, h] at k; exact k
section
variable {cmt : Bool} {a : List (List UInt8)} {b : List UInt8} {esc dq sq bq dl cm tq ad : Bool} {g r : Nat}
theorem pstep_cm10 : pstep cmt 10 ⟨a, b, esc, dq, sq, bq, dl, true, g, tq, ad⟩ = .go ⟨a, b, esc, dq, sq, bq, dl, false, g, false, false⟩ := by simp [pstep]
theorem pstep_cm (h : r ≠ 10) : pstep cmt r ⟨a, b, esc, dq, sq, bq, dl, true, g, tq, ad⟩ = .go ⟨a, b, esc, dq, sq, bq, dl, true, g, tq, false⟩ := by simp [pstep, h]
theorem pstep_escq (h : (bq || dl) = true) : pstep cmt r ⟨a, b, true, dq, sq, bq, dl, false, g, tq, ad⟩ = .go ⟨a, b ++ [92] ++ encN r, false, dq, sq, bq, dl, false, 1, true, false⟩ := by unfold pstep; simp [h]
theorem pstep_esc : pstep cmt r ⟨a, b, true, dq, sq, false, false, false, g, tq, ad⟩ = .go ⟨a, b ++ encN (escR r), false, dq, sq, false, false, false, 1, true, false⟩ := by simp [pstep]
theorem pstep_bss : pstep cmt 92 ⟨a, b, false, dq, true, bq, dl, false, g, tq, ad⟩ = .go ⟨a, b ++ [92], false, dq, true, bq, dl, false, g, tq, false⟩ := by simp [pstep]
theorem pstep_bs : pstep cmt 92 ⟨a, b, false, dq, false, bq, dl, false, g, tq, ad⟩ = .go ⟨a, b, true, dq, false, bq, dl, false, g, tq, false⟩ := by simp [pstep]
theorem pstep_spq (hr : r ≠ 92) (h : isSpN r = true) (hq : (sq || dq || bq || dl) = true) : pstep cmt r ⟨a, b, false, dq, sq, bq, dl, false, g, tq, ad⟩ = .go ⟨a, b ++ [UInt8.ofNat r], false, dq, sq, bq, dl, false, g, tq, false⟩ := by
  unfold pstep
  simp only [Bool.false_eq_true, if_false, hr, h, if_true]
  rw [if_pos (by unfold PS.qd; exact hq)]
theorem pstep_sp (hr : r ≠ 92) (h : isSpN r = true) : pstep cmt r ⟨a, b, false, false, false, false, false, false, g, tq, ad⟩ = .go ⟨flA a b g, [], false, false, false, false, false, false, 0, false, false⟩ := by
  unfold pstep
  simp only [Bool.false_eq_true, if_false, hr, h, if_true]
  rfl
end
end Go.Proofs.YtcjfcjlendibpaaDoor.Plain
