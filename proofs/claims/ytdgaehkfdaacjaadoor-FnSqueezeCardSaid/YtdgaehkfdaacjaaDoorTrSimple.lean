/- A translator of a list of characters without signs, and what follows. No program is in sight here (but the definitions of what is computed). -/
import Derived.Test.YtdgaehkfdaacjaaDoorTrImpl
set_option linter.unusedVariables false
namespace Go.Proofs.YtdgaehkfdaacjaaDoor
open Plain

/-- a list of characters without signs -/
def Bare (p : List Nat) : Prop := ∀ r ∈ p, r ≠ 92 ∧ r ≠ 45
def putsL (d : TD) (c : Int) : List Nat → TD
  | [] => d
  | a :: l => putsL (put d (a : Int) c) c l
theorem putsL_R (c : Int) : ∀ (l : List Nat) (d : TD), (putsL d c l).R = d.R
  | [], _ => rfl
  | a :: l, d => putsL_R c l _
theorem putsL_S (c : Int) : ∀ (l : List Nat) (d : TD) (r : Nat), (putsL d c l).S (r : Int) = if r ∈ l then some c else d.S (r : Int)
  | [], d, r => by simp [putsL]
  | a :: l, d, r => by
    rw [putsL, putsL_S c l _ r]
    by_cases h1 : r ∈ l
    · rw [if_pos h1, if_pos (List.mem_cons_of_mem _ h1)]
    · rw [if_neg h1]
      by_cases h2 : r = a
      · subst h2
        rw [if_pos List.mem_cons_self]
        simp [put]
      · rw [if_neg (fun h => by rcases List.mem_cons.1 h with h | h; exact h2 h; exact h1 h)]
        have : ¬ (r : Int) = (a : Int) := by omega
        simp [put, this]
theorem bare_cons {a : Nat} {l : List Nat} (h : Bare (a :: l)) : a ≠ 92 ∧ a ≠ 45 ∧ Bare l := ⟨(h a List.mem_cons_self).1, (h a List.mem_cons_self).2, fun r hr => h r (List.mem_cons_of_mem _ hr)⟩
theorem nrr_last {a : Nat} {l : List Nat} (h : Bare (a :: l)) (x : Int) (hx : x ≠ -1) : nrr (a :: l) x = (l, x, (a : Int), 0) := by
  obtain ⟨h1, h2, h3⟩ := bare_cons h
  unfold nrr nrrG
  rw [if_neg (fun y => h1 y.2), if_neg (fun y => h2 y.2), if_neg hx, if_neg (fun y => by cases y.1), if_neg (by simp)]
theorem nrr_one {a : Nat} (h : Bare [a]) : nrr [a] (-1) = ([], (a : Int), -1, 0) := by
  obtain ⟨h1, h2, h3⟩ := bare_cons h
  unfold nrr nrrG
  rw [if_neg (fun y => h1 y.2), if_neg (fun y => h2 y.2), if_pos rfl]
  unfold nrrG
  rw [if_neg (by omega)]
theorem nrr_two {a b : Nat} {l : List Nat} (h : Bare (a :: b :: l)) : nrr (a :: b :: l) (-1) = (l, (a : Int), (b : Int), 0) := by
  obtain ⟨h1, h2, h3⟩ := bare_cons h
  unfold nrr nrrG
  rw [if_neg (fun y => h1 y.2), if_neg (fun y => h2 y.2), if_pos rfl]
  exact nrr_last h3 (a : Int) (by omega)
theorem upd_end {x : NT} (h : x.te = -1) : upd x = x := by unfold upd; rw [if_pos h]
/-- .. where the second pattern has come to its end -/
theorem out_last : ∀ (l : List Nat) (g : Nat) (x : NT) (d : TD) (a : Nat), x.fr = l → x.fe = (a : Int) → x.te = -1 → Bare l → l.length ≤ g → trEnd (outF g x d).1 (outF g x d).2 = (putsL d x.ts (a :: l), x.ts)
  | [], g, x, d, a, hl, he, hte, hb, hg => by
    have e : outF g x d = (x, d) := by
      cases g with
      | zero => rfl
      | succ n => simp [outF, hl]
    rw [e]
    unfold trEnd
    rw [if_pos (by rw [he]; omega), he]
    rfl
  | b :: l, g, x, d, a, hl, he, hte, hb, hg => by
    cases g with
    | zero => simp at hg
    | succ n =>
      have hrd : rdS x = { x with fr := l, fs := (a : Int), fe := (b : Int), fst := 0 } := by
        unfold rdS
        rw [hl, he, nrr_last hb (a : Int) (by omega)]
      have ho : outS x d = ({ x with fr := l, fs := (a : Int), fe := (b : Int), fst := 0 }, put d (a : Int) x.ts) := by
        unfold outS
        rw [hrd, if_pos rfl]
        rw [upd_end (x := { x with fr := l, fs := (a : Int), fe := (b : Int), fst := 0 }) hte]
      have e : outF (n + 1) x d = outF n { x with fr := l, fs := (a : Int), fe := (b : Int), fst := 0 } (put d (a : Int) x.ts) := by
        rw [outF, if_neg (by rw [hl]; simp), ho]
      rw [e]
      exact out_last l n _ _ b rfl rfl hte (bare_cons hb).2.2 (by simp at hg; omega)
theorem out_first (p : List Nat) (hp : p ≠ []) (g : Nat) (x : NT) (d : TD) (hl : x.fr = p) (he : x.fe = -1) (hte : x.te = -1) (hb : Bare p) (hg : p.length ≤ g) : trEnd (outF g x d).1 (outF g x d).2 = (putsL d x.ts p, x.ts) := by
  match p, hp with
  | [a], _ =>
    cases g with
    | zero => simp at hg
    | succ n =>
      have hrd : rdS x = { x with fr := [], fs := (a : Int), fe := -1, fst := 0 } := by
        unfold rdS
        rw [hl, he, nrr_one hb]
      have ho : outS x d = ({ x with fr := [], fs := (a : Int), fe := -1, fst := 0 }, put d (a : Int) x.ts) := by
        unfold outS
        rw [hrd, if_pos rfl]
        rw [upd_end (x := { x with fr := [], fs := (a : Int), fe := -1, fst := 0 }) hte]
      have e : outF (n + 1) x d = outF n { x with fr := [], fs := (a : Int), fe := -1, fst := 0 } (put d (a : Int) x.ts) := by
        rw [outF, if_neg (by rw [hl]; simp), ho]
      have e2 : outF n { x with fr := [], fs := (a : Int), fe := -1, fst := 0 } (put d (a : Int) x.ts) = ({ x with fr := [], fs := (a : Int), fe := -1, fst := 0 }, put d (a : Int) x.ts) := by
        cases n with
        | zero => rfl
        | succ n => simp [outF]
      rw [e, e2]
      unfold trEnd
      rw [if_neg (by simp)]
      rfl
  | a :: b :: l, _ =>
    cases g with
    | zero => simp at hg
    | succ n =>
      have hrd : rdS x = { x with fr := l, fs := (a : Int), fe := (b : Int), fst := 0 } := by
        unfold rdS
        rw [hl, he, nrr_two hb]
      have ho : outS x d = ({ x with fr := l, fs := (a : Int), fe := (b : Int), fst := 0 }, put d (a : Int) x.ts) := by
        unfold outS
        rw [hrd, if_pos rfl]
        rw [upd_end (x := { x with fr := l, fs := (a : Int), fe := (b : Int), fst := 0 }) hte]
      have e : outF (n + 1) x d = outF n { x with fr := l, fs := (a : Int), fe := (b : Int), fst := 0 } (put d (a : Int) x.ts) := by
        rw [outF, if_neg (by rw [hl]; simp), ho]
      rw [e]
      exact out_last l n _ _ b rfl rfl hte (bare_cons (bare_cons hb).2.2).2.2 (by simp at hg; omega)
theorem bare_tr (p : List Nat) (hp : p ≠ []) (hb : Bare p) (t : List Nat) (del : Bool) (ht : del = true ∨ ∃ x, t = [x] ∧ x ≠ 92 ∧ x ≠ 45) :
    ntr p t false del = (putsL td0 (if del = true then (65533 : Int) else ((t.headD 0 : Nat) : Int)) p, if del = true then (65533 : Int) else ((t.headD 0 : Nat) : Int)) := by
  unfold ntr
  rcases ht with rfl | ⟨x, rfl, h1, h2⟩
  · have h := out_first p hp p.length (nt0 p t false true) td0 rfl rfl rfl hb (Nat.le_refl _)
    exact h
  · cases del with
    | true => exact out_first p hp p.length (nt0 p [x] false true) td0 rfl rfl rfl hb (Nat.le_refl _)
    | false =>
      have hn : nrr [x] (-1) = ([], (x : Int), -1, 0) := nrr_one (fun r hr => by rw [List.mem_singleton.1 hr]; exact ⟨h1, h2⟩)
      have e0 : nt0 p [x] false false = ⟨p, 0, -1, 0, [], (x : Int), -1, 0⟩ := by
        unfold nt0
        rw [if_neg (by simp), if_neg (by simp), hn]
      rw [e0]
      exact out_first p hp p.length ⟨p, 0, -1, 0, [], (x : Int), -1, 0⟩ td0 rfl rfl rfl hb (Nat.le_refl _)
theorem bare_look (p : List Nat) (c : Int) (r : Nat) : tlook (putsL td0 c p) (r : Int) = if r ∈ p then some c else none := by
  unfold tlook
  rw [putsL_S]
  by_cases h : r ∈ p
  · rw [if_pos h, if_pos h]
  · rw [if_neg h, if_neg h]
    have : (putsL td0 c p).R = [] := putsL_R c p td0
    rw [this]
    rfl
end Go.Proofs.YtdgaehkfdaacjaaDoor
