/- Plain laws on shellwords.Parse: the reading of a line, character by character. No program is in sight here. -/
import Derived.Test.YtcjfcjlendibpaaDoorPlain
import Derived.Test.YtcjfcjlendibpaaDoorTextOf
namespace Go.Proofs.YtcjfcjlendibpaaDoor.Plain
open Go.Lib

def encN (r : Nat) : List UInt8 := encodeRune (r : Int)
/-- what is known of a line that is being read: the words, the word that has begun, escaped, the four kinds of quotes, a comment, how the word has begun, whether it was quoted, a dollar sign right ahead -/
structure PS where
  a : List (List UInt8)
  b : List UInt8
  esc : Bool
  dq : Bool
  sq : Bool
  bq : Bool
  dl : Bool
  cm : Bool
  g : Nat
  tq : Bool
  ad : Bool
inductive PR
  | go (s : PS)
  | err
  | stop (s : PS) (d : Nat)
def pinit : PS := ⟨[], [], false, false, false, false, false, false, 0, false, false⟩
def isSpN (r : Nat) : Bool := r == 32 || r == 9 || r == 13 || r == 10
def isSepN (r : Nat) : Bool := r == 59 || r == 38 || r == 124 || r == 60 || r == 62
def PS.qd (s : PS) : Bool := s.sq || s.dq || s.bq || s.dl
def digs (b : List UInt8) : Bool := b.all fun c => decide (48 ≤ c.toNat) && decide (c.toNat ≤ 57)
def flA (a : List (List UInt8)) (b : List UInt8) (g : Nat) : List (List UInt8) := if g == 2 || (g != 0 && !b.isEmpty) then a ++ [b] else a
def PS.flush (s : PS) : PS := { s with a := flA s.a s.b s.g, b := [], g := 0, tq := false }
def PS.put (s : PS) (r : Nat) : PS := { s with b := s.b ++ encN r, g := 1, ad := r == 36 && !(s.sq || s.dq || s.bq || s.dl) }
def escR (r : Nat) : Nat := if r = 116 then 9 else if r = 110 then 10 else r
def pstep (cmt : Bool) (r : Nat) (s0 : PS) : PR :=
  let s : PS := { s0 with ad := false }
  if s.cm then .go (if r = 10 then { s with cm := false, tq := false } else s)
  else if s.esc then
    if s.bq || s.dl then .go { s with esc := false, tq := true, b := s.b ++ [92] ++ encN r, g := 1 }
    else .go { s with esc := false, tq := true, b := s.b ++ encN (escR r), g := 1 }
  else if r = 92 then .go (if s.sq then { s with b := s.b ++ [92] } else { s with esc := true })
  else if isSpN r then .go (if s.qd then { s with b := s.b ++ [UInt8.ofNat r] } else s.flush)
  else if r = 96 then .go ((if !s.sq && !s.dq && !s.dl then { s with bq := !s.bq } else s).put r)
  else if r = 41 ∧ (!s.sq && !s.dq && !s.bq) = true then (if s.dl then .go { s with b := s.b ++ [41], dl := false, g := 1 } else .err)
  else if r = 40 ∧ (!s.sq && !s.dq && !s.bq) = true then (if !s.dl && s0.ad then .go { s with dl := true, b := s.b ++ [40] } else .err)
  else if r = 34 ∧ (!s.sq && !s.dl && !s.bq) = true then .go { s with g := if s.dq then 2 else s.g, dq := !s.dq, tq := true }
  else if r = 39 ∧ (!s.dq && !s.dl && !s.bq) = true then .go { s with g := if s.sq then 2 else s.g, sq := !s.sq, tq := true }
  else if isSepN r && !s.qd then
    if r = 62 ∧ (!s.b.isEmpty && !s.tq && digs s.b) = true then .stop { s with g := 0 } s.b.length else .stop s 0
  else if r = 35 ∧ (cmt && s.g == 0 && !s.qd) = true then .go { s with cm := true }
  else .go (s.put r)
abbrev PA := Option (List (List UInt8) × Int)
def pend (s : PS) (pos : Int) : PA := if s.esc || s.sq || s.dq || s.bq || s.dl then none else some (flA s.a s.b s.g, pos)
def prun (cmt : Bool) : Nat → List Nat → PS → PA
  | _, [], s => pend s (-1)
  | i, r :: l, s => match pstep cmt r s with
    | .go t => prun cmt (i + 1) l t
    | .err => none
    | .stop t d => pend t ((i : Int) - d)
/-- the words of a text's characters -/
def words (cmt : Bool) (l : List Nat) : PA := prun cmt 0 l pinit

/-! ### one step, case by case -/
theorem prun_go {cmt : Bool} {i r : Nat} {l : List Nat} {s t : PS} {A : PA} (h : pstep cmt r s = .go t) (k : prun cmt i (r :: l) s = A) : prun cmt (i + 1) l t = A := by rw [prun, h] at k; exact k
theorem prun_err {cmt : Bool} {i r : Nat} {l : List Nat} {s : PS} {A : PA} (h : pstep cmt r s = .err) (k : prun cmt i (r :: l) s = A) : A = none := by rw [prun, h] at k; exact k.symm
theorem prun_stop {cmt : Bool} {i r d : Nat} {l : List Nat} {s t : PS} {A : PA} (h : pstep cmt r s = .stop t d) (k : prun cmt i (r :: l) s = A) : pend t ((i : Int) - d) = A := by rw [prun, h] at k; exact k
section
variable {cmt : Bool} {a : List (List UInt8)} {b : List UInt8} {esc dq sq bq dl cm tq ad : Bool} {g r : Nat}
theorem pstep_cm10 : pstep cmt 10 ⟨a, b, esc, dq, sq, bq, dl, true, g, tq, ad⟩ = .go ⟨a, b, esc, dq, sq, bq, dl, false, g, false, false⟩ := by simp [pstep]
theorem pstep_cm (h : r ≠ 10) : pstep cmt r ⟨a, b, esc, dq, sq, bq, dl, true, g, tq, ad⟩ = .go ⟨a, b, esc, dq, sq, bq, dl, true, g, tq, false⟩ := by simp [pstep, h]
theorem pstep_escq (h : (bq || dl) = true) : pstep cmt r ⟨a, b, true, dq, sq, bq, dl, false, g, tq, ad⟩ = .go ⟨a, b ++ [92] ++ encN r, false, dq, sq, bq, dl, false, 1, true, false⟩ := by unfold pstep; simp [h]
theorem pstep_esc : pstep cmt r ⟨a, b, true, dq, sq, false, false, false, g, tq, ad⟩ = .go ⟨a, b ++ encN (escR r), false, dq, sq, false, false, false, 1, true, false⟩ := by simp [pstep]
theorem pstep_bss : pstep cmt 92 ⟨a, b, false, dq, true, bq, dl, false, g, tq, ad⟩ = .go ⟨a, b ++ [92], false, dq, true, bq, dl, false, g, tq, false⟩ := by simp [pstep]
theorem pstep_bs : pstep cmt 92 ⟨a, b, false, dq, false, bq, dl, false, g, tq, ad⟩ = .go ⟨a, b, true, dq, false, bq, dl, false, g, tq, false⟩ := by simp [pstep]
theorem pstep_spq (hr : r ≠ 92) (h : isSpN r = true) (hq : (sq || dq || bq || dl) = true) : pstep cmt r ⟨a, b, false, dq, sq, bq, dl, false, g, tq, ad⟩ = .go ⟨a, b ++ [UInt8.ofNat r], false, dq, sq, bq, dl, false, g, tq, false⟩ := by
  unfold pstep
  simp only [Bool.false_eq_true, if_false, hr, h, if_true]
  rw [if_pos (by unfold PS.qd; exact hq)]
theorem pstep_sp (hr : r ≠ 92) (h : isSpN r = true) : pstep cmt r ⟨a, b, false, false, false, false, false, false, g, tq, ad⟩ = .go ⟨flA a b g, [], false, false, false, false, false, false, 0, false, false⟩ := by
  unfold pstep
  simp only [Bool.false_eq_true, if_false, hr, h, if_true]
  rfl
end
end Go.Proofs.YtcjfcjlendibpaaDoor.Plain

namespace Go.Proofs.YtcjfcjlendibpaaDoor.Plain
open Go.Lib

/-- the characters 'cs' are read as the word 'x' -/
def WordOk (cs : List Nat) (x : List UInt8) : Prop :=
  ∀ (a : List (List UInt8)) (i : Nat) (rest : List Nat), ∃ g tq, (g = 2 ∨ g = 1 ∧ x ≠ []) ∧
    prun false i (cs ++ rest) ⟨a, [], false, false, false, false, false, false, 0, false, false⟩ = prun false (i + cs.length) rest ⟨a, x, false, false, false, false, false, false, g, tq, false⟩
def joinN : List (List Nat) → List Nat
  | [] => []
  | [c] => c
  | c :: d :: l => c ++ 32 :: joinN (d :: l)
theorem flA_ok {a : List (List UInt8)} {x : List UInt8} {g : Nat} (h : g = 2 ∨ g = 1 ∧ x ≠ []) : flA a x g = a ++ [x] := by
  unfold flA
  rcases h with rfl | ⟨rfl, h⟩
  · rfl
  · rw [if_pos (by cases x with | nil => exact absurd rfl h | cons c l => rfl)]
theorem prun_words (tail : List Nat) : ∀ (l : List (List Nat × List UInt8)) (p : List Nat × List UInt8), (∀ q ∈ p :: l, WordOk q.1 q.2) → ∀ (a : List (List UInt8)) (i : Nat), ∃ g tq,
    (g = 2 ∨ g = 1 ∧ ((p :: l).getLast (by simp)).2 ≠ []) ∧
    prun false i (joinN ((p :: l).map Prod.fst) ++ tail) ⟨a, [], false, false, false, false, false, false, 0, false, false⟩ = prun false (i + (joinN ((p :: l).map Prod.fst)).length) tail ⟨a ++ (p :: l).dropLast.map Prod.snd, ((p :: l).getLast (by simp)).2, false, false, false, false, false, false, g, tq, false⟩
  | [], p, h, a, i => by
    obtain ⟨g, tq, hg, he⟩ := h p (by simp) a i tail
    refine ⟨g, tq, hg, ?_⟩
    show prun false i (p.1 ++ tail) _ = _
    rw [he]
    simp [joinN]
  | q :: l, p, h, a, i => by
    obtain ⟨g, tq, hg, he⟩ := h p (by simp) a i (32 :: (joinN ((q :: l).map Prod.fst) ++ tail))
    obtain ⟨g2, tq2, hg2, he2⟩ := prun_words tail l q (fun r hr => h r (by simp [List.mem_cons.1 hr])) (a ++ [p.2]) (i + p.1.length + 1)
    refine ⟨g2, tq2, by simpa using hg2, ?_⟩
    have e1 : joinN ((p :: q :: l).map Prod.fst) = p.1 ++ 32 :: joinN ((q :: l).map Prod.fst) := rfl
    rw [e1, List.append_assoc, List.cons_append, he, prun, pstep_sp (by decide) rfl, flA_ok hg]
    show prun false (i + p.1.length + 1) _ _ = _
    rw [he2]
    have e2 : i + (p.1 ++ 32 :: joinN ((q :: l).map Prod.fst)).length = i + p.1.length + 1 + (joinN ((q :: l).map Prod.fst)).length := by
      rw [List.length_append, List.length_cons]; omega
    rw [e2]
    simp [List.dropLast_cons_of_ne_nil, List.append_assoc]
theorem dl_gl (l : List (List Nat × List UInt8)) (h : l ≠ []) : l.dropLast.map Prod.snd ++ [(l.getLast h).2] = l.map Prod.snd := by
  have := List.dropLast_concat_getLast h
  have h2 := congrArg (List.map Prod.snd) this
  rw [List.map_append] at h2
  exact h2
theorem words_join (l : List (List Nat × List UInt8)) (hne : l ≠ []) (h : ∀ q ∈ l, WordOk q.1 q.2) : words false (joinN (l.map Prod.fst)) = some (l.map Prod.snd, -1) := by
  cases l with
  | nil => exact absurd rfl hne
  | cons p l =>
    obtain ⟨g, tq, hg, he⟩ := prun_words [] l p h [] 0
    rw [List.append_nil] at he
    unfold words pinit
    rw [he, prun]
    show some (flA _ _ _, _) = _
    rw [flA_ok hg, List.nil_append, dl_gl]
theorem words_stop (l : List (List Nat × List UInt8)) (hne : l ≠ []) (h : ∀ q ∈ l, WordOk q.1 q.2) (r : Nat) (hr : isSepN r = true) (rest : List Nat) :
    words false (joinN (l.map Prod.fst) ++ 32 :: r :: rest) = some (l.map Prod.snd, (((joinN (l.map Prod.fst)).length + 1 : Nat) : Int)) := by
  cases l with
  | nil => exact absurd rfl hne
  | cons p l =>
    obtain ⟨g, tq, hg, he⟩ := prun_words (32 :: r :: rest) l p h [] 0
    unfold words pinit
    rw [he, prun, pstep_sp (by decide) rfl, flA_ok hg, List.nil_append, dl_gl]
    show prun false _ (r :: rest) _ = _
    have hs : pstep false r ⟨(p :: l).map Prod.snd, [], false, false, false, false, false, false, 0, false, false⟩ = .stop ⟨(p :: l).map Prod.snd, [], false, false, false, false, false, false, 0, false, false⟩ 0 := by
      unfold isSepN at hr
      simp only [Bool.or_eq_true, beq_iff_eq] at hr
      rcases hr with (((rfl | rfl) | rfl) | rfl) | rfl <;> rfl
    rw [prun, hs]
    show some (flA _ _ _, _) = _
    have : flA ((p :: l).map Prod.snd) [] 0 = (p :: l).map Prod.snd := rfl
    rw [this]
    congr 2
    omega
theorem encN_ascii (c : UInt8) (h : c.toNat < 128) : encN c.toNat = [c] := by
  have : ∀ r : Fin 128, encN r.1 = [UInt8.ofNat r.1] := by decide +kernel
  rw [this ⟨c.toNat, h⟩]
  simp
/-- a byte that means nothing to a shell -/
def plainC (r : Nat) : Bool := r != 92 && !isSpN r && r != 96 && r != 41 && r != 40 && r != 34 && r != 39 && !isSepN r && r != 35 && r != 36 && r < 128
theorem pstep_plain (c : UInt8) (h : plainC c.toNat = true) (a : List (List UInt8)) (b : List UInt8) (g : Nat) (tq ad : Bool) :
    pstep false c.toNat ⟨a, b, false, false, false, false, false, false, g, tq, ad⟩ = .go ⟨a, b ++ [c], false, false, false, false, false, false, 1, tq, false⟩ := by
  unfold plainC at h
  simp only [Bool.and_eq_true, bne_iff_ne, ne_eq, Bool.not_eq_true', decide_eq_true_eq] at h
  obtain ⟨⟨⟨⟨⟨⟨⟨⟨⟨⟨h1, h2⟩, h3⟩, h4⟩, h5⟩, h6⟩, h7⟩, h8⟩, h9⟩, h10⟩, h11⟩ := h
  unfold pstep
  simp [h1, h2, h3, h4, h5, h6, h7, h8, h9, h10, PS.put, encN_ascii c h11]
theorem prun_plain (rest : List Nat) : ∀ (x : List UInt8), (∀ c ∈ x, plainC c.toNat = true) → ∀ (a : List (List UInt8)) (b : List UInt8) (g i : Nat), ∃ g2, (x = [] → g2 = g) ∧ (x ≠ [] → g2 = 1) ∧
    prun false i (x.map (·.toNat) ++ rest) ⟨a, b, false, false, false, false, false, false, g, false, false⟩ = prun false (i + x.length) rest ⟨a, b ++ x, false, false, false, false, false, false, g2, false, false⟩
  | [], h, a, b, g, i => ⟨g, fun _ => rfl, fun h => absurd rfl h, by simp⟩
  | c :: x, h, a, b, g, i => by
    obtain ⟨g2, h1, h2, h3⟩ := prun_plain rest x (fun d hd => h d (by simp [hd])) a (b ++ [c]) 1 (i + 1)
    refine ⟨g2, (by intro h; cases h), fun _ => ?_, ?_⟩
    · cases x with
      | nil => exact h1 rfl
      | cons d x => exact h2 (by simp)
    · rw [List.map_cons, List.cons_append, prun, pstep_plain c (h c (by simp))]
      show prun false (i + 1) _ _ = _
      rw [h3]
      rw [List.append_assoc, List.length_cons, show i + 1 + x.length = i + (x.length + 1) by omega]
      rfl
theorem bare_ok (x : List UInt8) (hx : x ≠ []) (h : ∀ c ∈ x, plainC c.toNat = true) : WordOk (x.map (·.toNat)) x := by
  intro a i rest
  obtain ⟨g2, _, h2, h3⟩ := prun_plain rest x h a [] 0 i
  refine ⟨g2, false, .inr ⟨h2 hx, hx⟩, ?_⟩
  rw [h3, List.length_map, List.nil_append]
/-! ### between single quotes -/
theorem pstep_inq (c : UInt8) (h : c.toNat < 128) (h39 : c.toNat ≠ 39) (a : List (List UInt8)) (b : List UInt8) (g : Nat) (tq ad : Bool) : ∃ g2,
    pstep false c.toNat ⟨a, b, false, false, true, false, false, false, g, tq, ad⟩ = .go ⟨a, b ++ [c], false, false, true, false, false, false, g2, tq, false⟩ := by
  by_cases h92 : c.toNat = 92
  · refine ⟨g, ?_⟩
    rw [h92, pstep_bss]
    have : c = 92 := UInt8.toNat_inj.1 h92
    rw [this]
  by_cases hsp : isSpN c.toNat = true
  · refine ⟨g, ?_⟩
    rw [pstep_spq h92 hsp rfl]
    simp
  · refine ⟨1, ?_⟩
    unfold pstep
    simp [h92, hsp, h39, PS.put, PS.qd, encN_ascii c h]
theorem prun_inq (rest : List Nat) : ∀ (x : List UInt8), (∀ c ∈ x, c.toNat < 128 ∧ c.toNat ≠ 39) → ∀ (a : List (List UInt8)) (b : List UInt8) (g i : Nat), ∃ g2,
    prun false i (x.map (·.toNat) ++ rest) ⟨a, b, false, false, true, false, false, false, g, true, false⟩ = prun false (i + x.length) rest ⟨a, b ++ x, false, false, true, false, false, false, g2, true, false⟩
  | [], h, a, b, g, i => ⟨g, by simp⟩
  | c :: x, h, a, b, g, i => by
    obtain ⟨g1, e1⟩ := pstep_inq c (h c (by simp)).1 (h c (by simp)).2 a b g true false
    obtain ⟨g2, e2⟩ := prun_inq rest x (fun d hd => h d (by simp [hd])) a (b ++ [c]) g1 (i + 1)
    refine ⟨g2, ?_⟩
    rw [List.map_cons, List.cons_append, prun, e1]
    show prun false (i + 1) _ _ = _
    rw [e2]
    rw [List.append_assoc, List.length_cons, show i + 1 + x.length = i + (x.length + 1) by omega]
    rfl
theorem quoted_ok (x : List UInt8) (h : ∀ c ∈ x, c.toNat < 128 ∧ c.toNat ≠ 39) : WordOk (39 :: (x.map (·.toNat) ++ [39])) x := by
  intro a i rest
  obtain ⟨g2, e⟩ := prun_inq (39 :: rest) x h a [] 0 (i + 1)
  refine ⟨2, true, .inl rfl, ?_⟩
  rw [List.cons_append, List.append_assoc, prun]
  show prun false (i + 1) (x.map (·.toNat) ++ 39 :: rest) ⟨a, [], false, false, true, false, false, false, 0, true, false⟩ = _
  rw [e, prun]
  show prun false (i + 1 + x.length + 1) rest ⟨a, x, false, false, false, false, false, false, 2, true, false⟩ = _
  rw [List.length_cons, List.length_append, List.length_map]
  show _ = prun false (i + (x.length + 1 + 1)) rest _
  rw [show i + 1 + x.length + 1 = i + (x.length + 1 + 1) by omega]
/-! ### behind backslashes -/
def alnum (r : Nat) : Bool := (decide (97 ≤ r) && decide (r ≤ 122)) || (decide (65 ≤ r) && decide (r ≤ 90)) || (decide (48 ≤ r) && decide (r ≤ 57))
def escC (c : UInt8) : List UInt8 := if alnum c.toNat = true then [c] else [92, c]
theorem alnum_plain (r : Nat) (h : alnum r = true) : plainC r = true := by
  have hr : r < 128 := by
    unfold alnum at h
    simp only [Bool.or_eq_true, Bool.and_eq_true, decide_eq_true_eq] at h
    omega
  have : ∀ r : Fin 128, alnum r.1 = true → plainC r.1 = true := by decide +kernel
  exact this ⟨r, hr⟩ h
theorem pstep_escaped (c : UInt8) (h : c.toNat < 128) (hn : alnum c.toNat = false) (a : List (List UInt8)) (b : List UInt8) (g : Nat) (tq ad : Bool) :
    pstep false c.toNat ⟨a, b, true, false, false, false, false, false, g, tq, ad⟩ = .go ⟨a, b ++ [c], false, false, false, false, false, false, 1, true, false⟩ := by
  rw [pstep_esc]
  have : escR c.toNat = c.toNat := by
    unfold escR
    rw [if_neg (fun e => by rw [e] at hn; exact absurd hn (by decide)), if_neg (fun e => by rw [e] at hn; exact absurd hn (by decide))]
  rw [this, encN_ascii c h]
theorem prun_esc (rest : List Nat) : ∀ (x : List UInt8), (∀ c ∈ x, c.toNat < 128) → ∀ (a : List (List UInt8)) (b : List UInt8) (g i : Nat) (tq : Bool), ∃ g2 tq2, (x ≠ [] → g2 = 1) ∧ (x = [] → g2 = g) ∧
    prun false i ((x.flatMap escC).map (·.toNat) ++ rest) ⟨a, b, false, false, false, false, false, false, g, tq, false⟩ = prun false (i + (x.flatMap escC).length) rest ⟨a, b ++ x, false, false, false, false, false, false, g2, tq2, false⟩
  | [], h, a, b, g, i, tq => ⟨g, tq, fun h => absurd rfl h, fun _ => rfl, by simp⟩
  | c :: x, h, a, b, g, i, tq => by
    cases hal : alnum c.toNat with
    | true =>
      obtain ⟨g2, tq2, h1, h2, h3⟩ := prun_esc rest x (fun d hd => h d (by simp [hd])) a (b ++ [c]) 1 (i + 1) tq
      refine ⟨g2, tq2, fun _ => ?_, (by intro h; cases h), ?_⟩
      · cases x with
        | nil => exact h2 rfl
        | cons d x => exact h1 (by simp)
      · have e : escC c = [c] := by unfold escC; rw [if_pos hal]
        rw [List.flatMap_cons, e, List.map_append, List.append_assoc, List.map_cons, List.map_nil, List.cons_append, List.nil_append, prun, pstep_plain c (alnum_plain _ hal)]
        show prun false (i + 1) _ _ = _
        rw [h3, List.append_assoc, List.length_append, List.length_cons, List.length_nil, show i + 1 + (x.flatMap escC).length = i + (0 + 1 + (x.flatMap escC).length) by omega]
        rfl
    | false =>
      obtain ⟨g2, tq2, h1, h2, h3⟩ := prun_esc rest x (fun d hd => h d (by simp [hd])) a (b ++ [c]) 1 (i + 1 + 1) true
      refine ⟨g2, tq2, fun _ => ?_, (by intro h; cases h), ?_⟩
      · cases x with
        | nil => exact h2 rfl
        | cons d x => exact h1 (by simp)
      · have e : escC c = [92, c] := by unfold escC; rw [if_neg (by rw [hal]; decide)]
        rw [List.flatMap_cons, e, List.map_append, List.append_assoc, List.map_cons, List.map_cons, List.map_nil, List.cons_append, List.cons_append, List.nil_append, prun]
        show prun false (i + 1) (c.toNat :: _) ⟨a, b, true, false, false, false, false, false, g, tq, false⟩ = _
        rw [prun, pstep_escaped c (h c (by simp)) hal]
        show prun false (i + 1 + 1) _ _ = _
        rw [h3, List.append_assoc, List.length_append, List.length_cons, List.length_cons, List.length_nil, show i + 1 + 1 + (x.flatMap escC).length = i + (0 + 1 + 1 + (x.flatMap escC).length) by omega]
        rfl
theorem escaped_ok (x : List UInt8) (hx : x ≠ []) (h : ∀ c ∈ x, c.toNat < 128) : WordOk ((x.flatMap escC).map (·.toNat)) x := by
  intro a i rest
  obtain ⟨g2, tq2, h1, _, h3⟩ := prun_esc rest x h a [] 0 i false
  refine ⟨g2, tq2, .inr ⟨h1 hx, hx⟩, ?_⟩
  rw [h3, List.length_map, List.nil_append]
end Go.Proofs.YtcjfcjlendibpaaDoor.Plain

namespace Go.Proofs.YtcjfcjlendibpaaDoor.Plain
open Go.Lib

structure SP where
  out : List (List UInt8)
  word : List UInt8
  begun : Bool
  single : Bool
  twin : Bool
inductive SA
  | opn
  | no
  | yes (l : List (List UInt8))
def SP.end (p : SP) : SP := { p with out := if p.begun = true then p.out ++ [p.word] else p.out, word := [], begun := false }
def SP.add (p : SP) (c : UInt8) : SP := { p with word := p.word ++ [c], begun := true }
def digB (c : UInt8) : Bool := decide (48 ≤ c.toNat) && decide (c.toNat ≤ 57)
def headDig : List UInt8 → Bool
  | [] => false
  | c :: _ => digB c
def spB (c : UInt8) : Bool := c.toNat == 32 || c.toNat == 9 || c.toNat == 10 || c.toNat == 13
def sepB (c : UInt8) : Bool := c.toNat == 59 || c.toNat == 38 || c.toNat == 124 || c.toNat == 60 || c.toNat == 62
/-- one byte that is no backslash (or stands between single quotes): .inl: go on; .inr: the end -/
def sone (c : UInt8) (p : SP) : SP ⊕ SA :=
  if c.toNat = 39 ∧ p.twin = false then .inl { p with single := !p.single, begun := true }
  else if c.toNat = 34 ∧ p.single = false then .inl { p with twin := !p.twin, begun := true }
  else if (p.single || p.twin) = true then .inl (p.add c)
  else if spB c = true then .inl p.end
  else if c.toNat = 62 ∧ headDig p.word = true then .inr .opn
  else if sepB c = true then .inr (.yes p.end.out)
  else .inl (p.add c)
def srun : List UInt8 → SP → SA
  | [], p => if (p.single || p.twin) = true then .no else .yes p.end.out
  | [c], p => if c.toNat = 92 ∧ p.single = false then .no else match sone c p with | .inl q => if (q.single || q.twin) = true then .no else .yes q.end.out | .inr a => a
  | c :: d :: l, p => if c.toNat = 92 ∧ p.single = false then (if d.toNat = 116 ∨ d.toNat = 110 then .opn else srun l (p.add d)) else match sone c p with | .inl q => srun (d :: l) q | .inr a => a
def sinit : SP := ⟨[], [], false, false, false⟩

theorem srun_bs (l : List UInt8) (p : SP) (h : p.single = false) : srun (92 :: l) p = match l with | [] => .no | d :: l => if d.toNat = 116 ∨ d.toNat = 110 then .opn else srun l (p.add d) := by
  cases l with
  | nil => rw [srun, if_pos ⟨rfl, h⟩]
  | cons d l => rw [srun, if_pos ⟨rfl, h⟩]
theorem srun_one (c : UInt8) (l : List UInt8) (p : SP) (h : ¬ (c.toNat = 92 ∧ p.single = false)) : srun (c :: l) p = match sone c p with | .inl q => srun l q | .inr a => a := by
  cases l with
  | nil => rw [srun, if_neg h]; cases sone c p <;> rfl
  | cons d l => rw [srun, if_neg h]
/-- bytes behind the first of a character of several bytes, or all of them -/
theorem srun_high (l : List UInt8) : ∀ (bs : List UInt8), (∀ c ∈ bs, 128 ≤ c.toNat) → ∀ p : SP, (bs = [] → p.begun = true) → srun (bs ++ l) p = srun l { p with word := p.word ++ bs, begun := true }
  | [], h, p, hb => by
    have := hb rfl
    simp only [List.nil_append, List.append_nil]
    cases p
    simp at this
    rw [this]
  | c :: bs, h, p, _ => by
    have hc := h c (by simp)
    have e : sone c p = .inl (p.add c) := by
      unfold sone
      rw [if_neg (by omega), if_neg (by omega)]
      split
      · rfl
      · rw [if_neg (by unfold spB; simp only [Bool.or_eq_true, beq_iff_eq]; omega), if_neg (by omega), if_neg (by unfold sepB; simp only [Bool.or_eq_true, beq_iff_eq]; omega)]
    rw [List.cons_append, srun_one c _ p (by omega), e]
    show srun (bs ++ l) (p.add c) = _
    rw [srun_high l bs (fun d hd => h d (by simp [hd])) (p.add c) (fun _ => rfl)]
    show srun l { p with word := p.word ++ [c] ++ bs, begun := true } = _
    rw [List.append_assoc]
    rfl
theorem encN_high (r : Nat) (h : 128 ≤ r) : encN r ≠ [] ∧ ∀ c ∈ encN r, 128 ≤ c.toNat := by
  have key : encodeRuneZ (r : Int) ≠ [] ∧ ∀ x ∈ encodeRuneZ (r : Int), 128 ≤ x ∧ x < 256 := by
    unfold encodeRuneZ
    rw [if_neg (by omega)]
    split
    · refine ⟨by simp, fun x hx => ?_⟩
      simp at hx
      omega
    split
    · refine ⟨by simp, fun x hx => ?_⟩
      simp at hx
      omega
    split
    · refine ⟨by simp, fun x hx => ?_⟩
      simp at hx
      omega
    · refine ⟨by simp, fun x hx => ?_⟩
      simp at hx
      omega
  unfold encN encodeRune
  refine ⟨by simpa using key.1, fun c hc => ?_⟩
  obtain ⟨x, hx, rfl⟩ := List.mem_map.1 hc
  have := key.2 x hx
  have h2 : x.toNat < 256 := by omega
  show 128 ≤ (UInt8.ofNat x.toNat).toNat
  rw [UInt8.toNat_ofNat_of_lt' h2]
  omega
def sat (r : SA) (A : PA) : Prop := match r with
  | .opn => True
  | .no => A = none
  | .yes l => ∃ pos, A = some (l, pos)
/-- the two states go together -/
def Sim (s : PS) (p : SP) : Prop := s.esc = false ∧ s.bq = false ∧ s.dl = false ∧ s.cm = false ∧ s.a = p.out ∧ s.b = p.word ∧ s.sq = p.single ∧ s.dq = p.twin ∧ (s.sq && s.dq) = false ∧
  ((s.sq || s.dq) = false → (p.begun = true ↔ s.g ≠ 0) ∧ (s.g ≠ 2 → s.g ≠ 0 → s.b ≠ []) ∧ (s.g = 0 → s.b = [])) ∧ ((s.sq || s.dq) = true → p.begun = true)
theorem sim_end {a : List (List UInt8)} {b : List UInt8} {g : Nat} {p : SP} (ha : a = p.out) (hb : b = p.word) (h1 : p.begun = true ↔ g ≠ 0) (h2 : g ≠ 2 → g ≠ 0 → b ≠ []) : flA a b g = p.end.out := by
  subst ha hb
  unfold flA SP.end
  by_cases h : g = 0
  · have : p.begun = false := by cases hp : p.begun with | false => rfl | true => exact absurd h (h1.1 hp)
    subst h
    simp [this]
  · have hp := h1.2 h
    rw [if_pos hp]
    by_cases h3 : g = 2
    · subst h3; rfl
    · have := h2 h3 h
      rw [if_pos]
      cases hw : p.word with
      | nil => exact absurd hw this
      | cons c l => simp [h]
section
variable {cmt : Bool} {a : List (List UInt8)} {b : List UInt8} {dq sq tq ad : Bool} {g r : Nat}
theorem pstep_put (h1 : r ≠ 92) (h2 : isSpN r = false) (h3 : r ≠ 96) (h4 : r ≠ 41) (h5 : r ≠ 40) (h6 : r = 34 → sq = true) (h7 : r = 39 → dq = true) (h8 : isSepN r = true → (sq || dq) = true) (h9 : cmt = true → r ≠ 35) :
    ∃ ad2, pstep cmt r ⟨a, b, false, dq, sq, false, false, false, g, tq, ad⟩ = .go ⟨a, b ++ encN r, false, dq, sq, false, false, false, 1, tq, ad2⟩ := by
  refine ⟨r == 36 && !(sq || dq || false || false), ?_⟩
  unfold pstep
  simp only [Bool.false_eq_true, if_false, h1, h2, h3, h4, h5, false_and]
  rw [if_neg (by rintro ⟨e, h⟩; rw [h6 e] at h; simp at h), if_neg (by rintro ⟨e, h⟩; rw [h7 e] at h; simp at h), if_neg, if_neg]
  · rfl
  · rintro ⟨e, h⟩
    cases cmt with
    | true => exact h9 rfl e
    | false => simp at h
  · intro h
    simp only [Bool.and_eq_true, Bool.not_eq_true', PS.qd, Bool.or_false] at h
    rw [h8 h.1] at h
    exact absurd h.2 (by decide)
theorem pstep_q39 (h : dq = false) : pstep cmt 39 ⟨a, b, false, dq, sq, false, false, false, g, tq, ad⟩ = .go ⟨a, b, false, dq, !sq, false, false, false, if sq = true then 2 else g, true, false⟩ := by
  subst h
  cases sq <;> rfl
theorem pstep_q34 (h : sq = false) : pstep cmt 34 ⟨a, b, false, dq, sq, false, false, false, g, tq, ad⟩ = .go ⟨a, b, false, !dq, sq, false, false, false, if dq = true then 2 else g, true, false⟩ := by
  subst h
  cases dq <;> rfl
theorem headDig_of (h : b.isEmpty = false) (hd : digs b = true) : headDig b = true := by
  cases b with
  | nil => cases h
  | cons c l =>
    unfold digs at hd
    rw [List.all_cons, Bool.and_eq_true] at hd
    exact hd.1
theorem pstep_sep (h : isSepN r = true) (hh : r = 62 → headDig b = false) : pstep cmt r ⟨a, b, false, false, false, false, false, false, g, tq, ad⟩ = .stop ⟨a, b, false, false, false, false, false, false, g, tq, false⟩ 0 := by
  have hr : r = 59 ∨ r = 38 ∨ r = 124 ∨ r = 60 ∨ r = 62 := by
    unfold isSepN at h
    simp only [Bool.or_eq_true, beq_iff_eq] at h
    omega
  rcases hr with rfl | rfl | rfl | rfl | rfl
  · rfl
  · rfl
  · rfl
  · rfl
  · have hn : ¬ (!b.isEmpty && !tq && digs b) = true := by
      intro e
      simp only [Bool.and_eq_true, Bool.not_eq_true'] at e
      have := headDig_of e.1.1 e.2
      rw [hh rfl] at this
      cases this
    unfold pstep
    simp only [Bool.false_eq_true, if_false]
    rw [if_neg (by decide), if_neg (by decide), if_neg (by decide), if_neg (by decide), if_neg (by decide), if_neg (by decide), if_neg (by decide), if_pos (by rfl), if_neg (fun e => hn e.2)]
end
theorem enc_ascii (r : Nat) (h : r < 128) : encN r = [UInt8.ofNat r] := by
  have : ∀ r : Fin 128, encN r.1 = [UInt8.ofNat r.1] := by decide +kernel
  exact this ⟨r, h⟩
theorem ofNat_toNat (r : Nat) (h : r < 128) : (UInt8.ofNat r).toNat = r := by
  have : ∀ r : Fin 128, (UInt8.ofNat r.1).toNat = r.1 := by decide +kernel
  exact this ⟨r, h⟩
def clearR (cmt : Bool) (r : Nat) : Prop := r ≠ 40 ∧ r ≠ 41 ∧ r ≠ 96 ∧ (cmt = true → r ≠ 35)
/-- a step that is no backslash: the two go on together, or end together -/
theorem sim_step {cmt : Bool} {r i : Nat} {rest : List Nat} {L : List UInt8} {s : PS} {p : SP} (hc : clearR cmt r) (h : Sim s p) (hb : ¬ (r = 92 ∧ p.single = false))
    (ih : ∀ s2 p2, Sim s2 p2 → sat (srun L p2) (prun cmt (i + 1) rest s2)) : sat (srun (encN r ++ L) p) (prun cmt i (r :: rest) s) := by
  obtain ⟨a, b, esc, dq, sq, bq, dl, cm, g, tq, ad⟩ := s
  obtain ⟨out, word, begun, single, twin⟩ := p
  obtain ⟨h1, h2, h3, h4, h5, h6, h7, h8, h9, h10, h11⟩ := h
  dsimp only at h1 h2 h3 h4 h5 h6 h7 h8 h9 h10 h11 hb
  subst h1 h2 h3 h4 h5 h6 h7 h8
  obtain ⟨c1, c2, c3, c4⟩ := hc
  -- a character that is put to the word
  have put : isSpN r = false → r ≠ 92 → (r = 34 → sq = true) → (r = 39 → dq = true) → (isSepN r = true → (sq || dq) = true) → srun (encN r ++ L) ⟨a, b, begun, sq, dq⟩ = srun L ⟨a, b ++ encN r, true, sq, dq⟩ →
      sat (srun (encN r ++ L) ⟨a, b, begun, sq, dq⟩) (prun cmt i (r :: rest) ⟨a, b, false, dq, sq, false, false, false, g, tq, ad⟩) := by
    intro e1 e2 e3 e4 e5 e6
    obtain ⟨ad2, hp⟩ := pstep_put (cmt := cmt) (a := a) (b := b) (dq := dq) (sq := sq) (tq := tq) (ad := ad) (g := g) (r := r) e2 e1 c3 c2 c1 e3 e4 e5 c4
    rw [prun, hp, e6]
    refine ih _ _ ⟨rfl, rfl, rfl, rfl, rfl, rfl, rfl, rfl, h9, fun _ => ⟨⟨fun _ => Nat.one_ne_zero, fun _ => rfl⟩, fun _ _ => ?_, (fun h => by cases h)⟩, fun _ => rfl⟩
    intro e
    have hne : encN r ≠ [] := by
      by_cases h128 : r < 128
      · rw [enc_ascii r h128]; simp
      · exact (encN_high r (by omega)).1
    exact hne (List.append_eq_nil_iff.1 e).2
  by_cases h128 : 128 ≤ r
  · obtain ⟨k1, k2⟩ := encN_high r h128
    have hsp : isSpN r = false := by unfold isSpN; simp only [Bool.or_eq_false_iff, beq_eq_false_iff_ne]; omega
    have hsep : ¬ isSepN r = true := by unfold isSepN; simp only [Bool.or_eq_true, beq_iff_eq]; omega
    exact put hsp (by omega) (by omega) (by omega) (fun e => absurd e hsep) (srun_high L (encN r) k2 _ (fun e => absurd e k1))
  have hr : r < 128 := by omega
  have hc0 := ofNat_toNat r hr
  rw [enc_ascii r hr] at put ⊢
  generalize UInt8.ofNat r = c at put hc0 ⊢
  subst hc0
  rw [List.cons_append, List.nil_append] at put ⊢
  have one := srun_one c L ⟨a, b, begun, sq, dq⟩ hb
  by_cases c39 : c.toNat = 39 ∧ dq = false
  · obtain ⟨e39, hdq⟩ := c39
    have hs : sone c ⟨a, b, begun, sq, dq⟩ = .inl ⟨a, b, true, !sq, dq⟩ := by unfold sone; rw [if_pos ⟨e39, hdq⟩]
    rw [one, hs, e39, prun, pstep_q39 hdq]
    subst hdq
    refine ih _ _ ⟨rfl, rfl, rfl, rfl, rfl, rfl, rfl, rfl, by simp, fun hq => ?_, fun _ => rfl⟩
    have hsq : sq = true := by simpa using hq
    subst hsq
    exact ⟨⟨fun _ => (show (2 : Nat) ≠ 0 from Nat.succ_ne_zero 1), fun _ => rfl⟩, fun hg => absurd rfl hg, fun hg => by cases hg⟩
  by_cases c34 : c.toNat = 34 ∧ sq = false
  · obtain ⟨e34, hsq⟩ := c34
    have hs : sone c ⟨a, b, begun, sq, dq⟩ = .inl ⟨a, b, true, sq, !dq⟩ := by unfold sone; rw [if_neg c39, if_pos ⟨e34, hsq⟩]
    rw [one, hs, e34, prun, pstep_q34 hsq]
    subst hsq
    refine ih _ _ ⟨rfl, rfl, rfl, rfl, rfl, rfl, rfl, rfl, by simp, fun hq => ?_, fun _ => rfl⟩
    have hdq : dq = true := by simpa using hq
    subst hdq
    exact ⟨⟨fun _ => (show (2 : Nat) ≠ 0 from Nat.succ_ne_zero 1), fun _ => rfl⟩, fun hg => absurd rfl hg, fun hg => by cases hg⟩
  have h39 : c.toNat = 39 → dq = true := fun e => by cases dq with | true => rfl | false => exact absurd ⟨e, rfl⟩ c39
  have h34 : c.toNat = 34 → sq = true := fun e => by cases sq with | true => rfl | false => exact absurd ⟨e, rfl⟩ c34
  by_cases hq : (sq || dq) = true
  · have hs : sone c ⟨a, b, begun, sq, dq⟩ = .inl ⟨a, b ++ [c], true, sq, dq⟩ := by unfold sone; rw [if_neg c39, if_neg c34, if_pos hq]; rfl
    have hbeg := h11 hq
    rw [hs] at one
    by_cases e92 : c.toNat = 92
    · have hsq : sq = true := by cases sq with | true => rfl | false => exact absurd ⟨e92, rfl⟩ hb
      subst hsq
      have ec : c = 92 := UInt8.toNat_inj.1 e92
      rw [one, e92, prun, pstep_bss, ec]
      exact ih _ _ ⟨rfl, rfl, rfl, rfl, rfl, rfl, rfl, rfl, h9, (fun h => by simp at h), fun _ => rfl⟩
    by_cases esp : isSpN c.toNat = true
    · rw [one, prun, pstep_spq e92 esp (by simpa using hq)]
      have : UInt8.ofNat c.toNat = c := by simp
      rw [this]
      exact ih _ _ ⟨rfl, rfl, rfl, rfl, rfl, rfl, rfl, rfl, h9, (fun h => by have h2 : (sq || dq) = false := h; rw [hq] at h2; cases h2), fun _ => rfl⟩
    · exact put (by simpa using esp) e92 h34 h39 (fun _ => hq) one
  · have hsq : sq = false := by cases sq with | false => rfl | true => simp at hq
    have hdq : dq = false := by cases dq with | false => rfl | true => simp at hq
    subst hsq hdq
    obtain ⟨g1, g2, g3⟩ := h10 rfl
    have n39 : c.toNat ≠ 39 := fun e => by cases h39 e
    have n34 : c.toNat ≠ 34 := fun e => by cases h34 e
    have n92 : c.toNat ≠ 92 := fun e => hb ⟨e, rfl⟩
    by_cases esp : isSpN c.toNat = true
    · have esb : spB c = true := by
        unfold isSpN at esp
        unfold spB
        simp only [Bool.or_eq_true, beq_iff_eq] at esp ⊢
        omega
      have hs : sone c ⟨a, b, begun, false, false⟩ = .inl (SP.end ⟨a, b, begun, false, false⟩) := by unfold sone; rw [if_neg c39, if_neg c34, if_neg hq, if_pos esb]
      rw [one, hs, prun, pstep_sp n92 esp]
      refine ih _ _ ⟨rfl, rfl, rfl, rfl, sim_end (p := ⟨a, b, begun, false, false⟩) rfl rfl g1 g2, rfl, rfl, rfl, rfl, fun _ => ⟨⟨(fun e => by cases e), fun e => absurd rfl e⟩, fun _ e => absurd rfl e, fun _ => rfl⟩, (fun e => by cases e)⟩
    have esb : ¬ spB c = true := by
      intro e
      apply esp
      unfold spB at e
      unfold isSpN
      simp only [Bool.or_eq_true, beq_iff_eq] at e ⊢
      omega
    by_cases e62 : c.toNat = 62 ∧ headDig b = true
    · have hs : sone c ⟨a, b, begun, false, false⟩ = .inr .opn := by unfold sone; rw [if_neg c39, if_neg c34, if_neg hq, if_neg esb, if_pos e62]
      rw [one, hs]
      trivial
    by_cases esep : sepB c = true
    · have hs : sone c ⟨a, b, begun, false, false⟩ = .inr (.yes (SP.end ⟨a, b, begun, false, false⟩).out) := by unfold sone; rw [if_neg c39, if_neg c34, if_neg hq, if_neg esb, if_neg e62, if_pos esep]
      rw [one, hs, prun, pstep_sep (r := c.toNat) esep (fun e => by cases hd : headDig b with | false => rfl | true => exact absurd ⟨e, hd⟩ e62)]
      exact ⟨_, by rw [← sim_end (a := a) (b := b) (g := g) (p := ⟨a, b, begun, false, false⟩) rfl rfl g1 g2]; rfl⟩
    · have hs : sone c ⟨a, b, begun, false, false⟩ = .inl ⟨a, b ++ [c], true, false, false⟩ := by unfold sone; rw [if_neg c39, if_neg c34, if_neg hq, if_neg esb, if_neg e62, if_neg esep]; rfl
      rw [hs] at one
      exact put (by simpa using esp) n92 h34 h39 (fun e => absurd e esep) one
theorem sim_pend {s : PS} {p : SP} {pos : Int} (h : Sim s p) : sat (srun [] p) (pend s pos) := by
  obtain ⟨a, b, esc, dq, sq, bq, dl, cm, g, tq, ad⟩ := s
  obtain ⟨out, word, begun, single, twin⟩ := p
  obtain ⟨h1, h2, h3, h4, h5, h6, h7, h8, h9, h10, h11⟩ := h
  dsimp only at h1 h2 h3 h4 h5 h6 h7 h8 h9 h10 h11
  subst h1 h2 h3 h4 h5 h6 h7 h8
  rw [srun]
  dsimp only
  by_cases hq : (sq || dq) = true
  · rw [if_pos hq]
    show pend _ _ = none
    unfold pend
    rw [if_pos (by cases sq <;> cases dq <;> first | rfl | cases hq)]
  · rw [if_neg hq]
    have hsq : sq = false := by cases sq with | false => rfl | true => simp at hq
    have hdq : dq = false := by cases dq with | false => rfl | true => simp at hq
    subst hsq hdq
    obtain ⟨g1, g2, g3⟩ := h10 rfl
    exact ⟨pos, by rw [← sim_end (a := a) (b := b) (g := g) (p := ⟨a, b, begun, false, false⟩) rfl rfl g1 g2]; rfl⟩
/-- behind a backslash -/
theorem sim_esc {cmt : Bool} {d i : Nat} {rest : List Nat} {L : List UInt8} {s : PS} {p : SP} (h : Sim s p) (hs : p.single = false)
    (ih : ∀ s2 p2, Sim s2 p2 → sat (srun L p2) (prun cmt (i + 1 + 1) rest s2)) : sat (srun (92 :: (encN d ++ L)) p) (prun cmt i (92 :: d :: rest) s) := by
  obtain ⟨a, b, esc, dq, sq, bq, dl, cm, g, tq, ad⟩ := s
  obtain ⟨out, word, begun, single, twin⟩ := p
  obtain ⟨h1, h2, h3, h4, h5, h6, h7, h8, h9, h10, h11⟩ := h
  dsimp only at h1 h2 h3 h4 h5 h6 h7 h8 h9 h10 h11 hs
  subst h1 h2 h3 h4 h5 h6 h7 h8 hs
  rw [srun_bs _ _ rfl, prun, pstep_bs]
  show sat _ (prun cmt (i + 1) (d :: rest) _)
  rw [prun, pstep_esc]
  have go : ∀ bs : List UInt8, bs ≠ [] → encN (escR d) = bs → sat (srun L ⟨a, b ++ bs, true, false, dq⟩) (prun cmt (i + 1 + 1) rest ⟨a, b ++ encN (escR d), false, dq, false, false, false, false, 1, true, false⟩) := by
    intro bs hne e
    rw [e]
    exact ih _ _ ⟨rfl, rfl, rfl, rfl, rfl, rfl, rfl, rfl, h9, fun _ => ⟨⟨fun _ => Nat.one_ne_zero, fun _ => rfl⟩, fun _ _ e => hne (List.append_eq_nil_iff.1 e).2, (fun h => by cases h)⟩, fun _ => rfl⟩
  by_cases h128 : d < 128
  · have hc0 := ofNat_toNat d h128
    rw [enc_ascii d h128]
    show sat (if (UInt8.ofNat d).toNat = 116 ∨ (UInt8.ofNat d).toNat = 110 then .opn else _) _
    by_cases ht : (UInt8.ofNat d).toNat = 116 ∨ (UInt8.ofNat d).toNat = 110
    · rw [if_pos ht]; trivial
    · rw [if_neg ht]
      rw [hc0] at ht
      have hesc : escR d = d := by unfold escR; rw [if_neg (fun e => ht (.inl e)), if_neg (fun e => ht (.inr e))]
      exact go [UInt8.ofNat d] (by simp) (by rw [hesc, enc_ascii d h128])
  · have hesc : escR d = d := by unfold escR; rw [if_neg (by omega), if_neg (by omega)]
    obtain ⟨k1, k2⟩ := encN_high d (by omega)
    rw [hesc] at go ⊢
    cases hE : encN d with
    | nil => exact absurd hE k1
    | cons c bs =>
      rw [hE] at k2 go
      have hc := k2 c (by simp)
      show sat (if c.toNat = 116 ∨ c.toNat = 110 then .opn else _) _
      rw [if_neg (by omega)]
      have := srun_high L bs (fun x hx => k2 x (by simp [hx])) (SP.add ⟨a, b, begun, false, dq⟩ c) (fun _ => rfl)
      rw [List.append_eq, this]
      have e2 := go (c :: bs) (by simp) rfl
      show sat (srun L ⟨a, b ++ [c] ++ bs, true, false, dq⟩) _
      rw [List.append_assoc]
      exact e2
theorem sim_run (cmt : Bool) : ∀ (n : Nat) (rs : List Nat), rs.length ≤ n → (∀ r ∈ rs, clearR cmt r) → ∀ (s : PS) (p : SP) (i : Nat), Sim s p → sat (srun (rs.flatMap encN) p) (prun cmt i rs s)
  | _, [], _, _, s, p, i, h => by rw [prun]; exact sim_pend h
  | 0, r :: rs, hn, _, s, p, i, h => by simp at hn
  | n + 1, r :: rs, hn, hc, s, p, i, h => by
    rw [List.flatMap_cons]
    by_cases hb : r = 92 ∧ p.single = false
    · obtain ⟨rfl, hs⟩ := hb
      have e92 : encN 92 = [92] := by decide +kernel
      rw [e92]
      cases rs with
      | nil =>
        show sat (srun (92 :: []) p) _
        rw [srun_bs _ _ hs]
        obtain ⟨a, b, esc, dq, sq, bq, dl, cm, g, tq, ad⟩ := s
        obtain ⟨out, word, begun, single, twin⟩ := p
        obtain ⟨h1, h2, h3, h4, h5, h6, h7, h8, _⟩ := h
        dsimp only at h1 h2 h3 h4 h7 hs
        subst h1 h2 h3 h4 h7 hs
        rw [prun, pstep_bs]
        rfl
      | cons d rs =>
        rw [List.flatMap_cons]
        exact sim_esc h hs (fun s2 p2 h2 => sim_run cmt n rs (by simp at hn ⊢; omega) (fun r hr => hc r (by simp [hr])) s2 p2 _ h2)
    · exact sim_step (hc r (by simp)) h hb (fun s2 p2 h2 => sim_run cmt n rs (by simpa using hn) (fun r hr => hc r (by simp [hr])) s2 p2 _ h2)
/-- the reference's words of a line that is clear are the package's -/
theorem says_ok (cmt : Bool) (l : List UInt8) (hv : validD l = true) (hc : ∀ c ∈ l, c.toNat ≠ 40 ∧ c.toNat ≠ 41 ∧ c.toNat ≠ 96 ∧ (cmt = true → c.toNat ≠ 35)) : sat (srun l sinit) (words cmt (rnsOf l)) := by
  have e : (rnsOf l).flatMap encN = l := by
    unfold rnsOf
    rw [List.flatMap_map]
    have : ∀ cs : List (List UInt8), (∀ c ∈ cs, Good c) → cs.flatMap (fun c => encN (runeOf c)) = cs.flatten := by
      intro cs
      induction cs with
      | nil => intro _; rfl
      | cons c cs ih =>
        intro h
        rw [List.flatMap_cons, List.flatten_cons, ih (fun d hd => h d (by simp [hd]))]
        congr 1
        exact encode_runeOf c (h c (by simp))
    rw [this _ (segs_good l hv), segs_flatten]
  have hr : ∀ r ∈ rnsOf l, clearR cmt r := by
    intro r hr
    by_cases h128 : 128 ≤ r
    · exact ⟨by omega, by omega, by omega, fun _ => by omega⟩
    · have hm : UInt8.ofNat r ∈ l := by
        rw [← e, List.mem_flatMap]
        exact ⟨r, hr, by rw [enc_ascii r (by omega)]; simp⟩
      have := hc _ hm
      rw [ofNat_toNat r (by omega)] at this
      exact this
  have := sim_run cmt (rnsOf l).length (rnsOf l) (Nat.le_refl _) hr pinit sinit 0 ⟨rfl, rfl, rfl, rfl, rfl, rfl, rfl, rfl, rfl, fun _ => ⟨⟨(fun e => by cases e), fun e => absurd rfl e⟩, fun _ e => absurd rfl e, fun _ => rfl⟩, (fun e => by cases e)⟩
  rw [e] at this
  exact this
end Go.Proofs.YtcjfcjlendibpaaDoor.Plain

namespace Go.Proofs.YtcjfcjlendibpaaDoor.Plain
open Go.Lib

theorem rns_back (l : List UInt8) (hv : validD l = true) : (rnsOf l).flatMap encN = l := by
  unfold rnsOf
  rw [List.flatMap_map]
  have : ∀ cs : List (List UInt8), (∀ c ∈ cs, Good c) → cs.flatMap (fun c => encN (runeOf c)) = cs.flatten := by
    intro cs
    induction cs with
    | nil => intro _; rfl
    | cons c cs ih =>
      intro h
      rw [List.flatMap_cons, List.flatten_cons, ih (fun d hd => h d (by simp [hd]))]
      congr 1
      exact encode_runeOf c (h c (by simp))
  rw [this _ (segs_good l hv), segs_flatten]
theorem no36 (l : List UInt8) (hv : validD l = true) (h : ∀ c ∈ l, c.toNat ≠ 36) : 36 ∉ rnsOf l := by
  intro hm
  have : (36 : UInt8) ∈ l := by
    rw [← rns_back l hv, List.mem_flatMap]
    exact ⟨36, hm, by decide +kernel⟩
  exact h _ this rfl
def Bd (M : Nat) (p : SP) (n : Nat) : Prop := (∀ x ∈ p.out, x.length ≤ M) ∧ p.word.length + n ≤ M ∧ p.out.length + n ≤ M
theorem bd_end {M n : Nat} {p : SP} (h : Bd M p (n + 1)) : Bd M p.end n := by
  obtain ⟨h1, h2, h3⟩ := h
  unfold SP.end
  refine ⟨?_, by simp; omega, ?_⟩
  · dsimp only
    split
    · intro x hx
      rcases List.mem_append.1 hx with hx | hx
      · exact h1 x hx
      · simp at hx; subst hx; omega
    · exact h1
  · dsimp only
    split
    · simp; omega
    · omega
theorem bd_add {M n : Nat} {p : SP} {c : UInt8} (h : Bd M p (n + 1)) : Bd M (p.add c) n := by
  obtain ⟨h1, h2, h3⟩ := h
  exact ⟨h1, by simp [SP.add]; omega, by simp [SP.add]; omega⟩
def OneOk (M n : Nat) : SP ⊕ SA → Prop
  | .inl q => Bd M q n
  | .inr a => ∀ l, a = .yes l → (∀ x ∈ l, x.length ≤ M) ∧ l.length ≤ M + 1
theorem bd_one {M n : Nat} {p : SP} {c : UInt8} (h : Bd M p (n + 1)) : OneOk M n (sone c p) := by
  have he := bd_end h
  have ha := bd_add (c := c) h
  have hq : ∀ b s t, Bd M { p with begun := b, single := s, twin := t } n := fun b s t => ⟨h.1, by have := h.2.1; dsimp only; omega, by have := h.2.2; dsimp only; omega⟩
  unfold sone
  split
  · exact hq _ _ _
  split
  · exact hq _ _ _
  split
  · exact ha
  split
  · exact he
  split
  · intro l e; cases e
  split
  · intro l e
    cases e
    exact ⟨he.1, by have := he.2.2; omega⟩
  · exact ha
theorem bd_fin {M : Nat} {p : SP} (h : Bd M p 1) : (∀ x ∈ p.end.out, x.length ≤ M) ∧ p.end.out.length ≤ M + 1 := ⟨(bd_end h).1, by have := (bd_end h).2.2; omega⟩
theorem srun_bd (M : Nat) : ∀ (n : Nat) (l : List UInt8), l.length ≤ n → ∀ p : SP, Bd M p (l.length + 1) → ∀ out, srun l p = .yes out → (∀ x ∈ out, x.length ≤ M) ∧ out.length ≤ M + 1
  | _, [], _, p, h, out, e => by
    rw [srun] at e
    split at e
    · cases e
    · cases e; exact bd_fin h
  | 0, c :: l, hn, p, h, out, e => by simp at hn
  | n + 1, c :: l, hn, p, h, out, e => by
    by_cases hb : c.toNat = 92 ∧ p.single = false
    · have hc : c = 92 := UInt8.toNat_inj.1 hb.1
      subst hc
      rw [srun_bs l p hb.2] at e
      cases l with
      | nil => cases e
      | cons d l =>
        dsimp only at e
        split at e
        · cases e
        · exact srun_bd M n l (by simp at hn; omega) _ (by
            have h2 : Bd M p (l.length + 1 + 1) := ⟨h.1, by have := h.2.1; simp at this; omega, by have := h.2.2; simp at this; omega⟩
            exact bd_add h2) out e
    · rw [srun_one c l p hb] at e
      have h1 := bd_one (c := c) (show Bd M p (l.length + 1 + 1) from h)
      cases hs : sone c p with
      | inl q =>
        rw [hs] at e h1
        exact srun_bd M n l (by simpa using hn) q h1 out e
      | inr a =>
        rw [hs] at e h1
        dsimp only at e
        exact h1 out e
theorem words_bound (l : List UInt8) (out : List (List UInt8)) (h : srun l sinit = .yes out) : (∀ x ∈ out, x.length ≤ l.length + 1) ∧ out.length ≤ l.length + 2 :=
  srun_bd (l.length + 1) l.length l (Nat.le_refl _) sinit ⟨(fun x hx => by cases hx), by show 0 + _ ≤ _; omega, by show 0 + _ ≤ _; omega⟩ out h
end Go.Proofs.YtcjfcjlendibpaaDoor.Plain
