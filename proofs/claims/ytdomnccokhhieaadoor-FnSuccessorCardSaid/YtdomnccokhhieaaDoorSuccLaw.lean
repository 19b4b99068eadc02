/- Plain laws on xstrings.Successor: the loop from the last character on; what it answers. No program is in sight here. -/
import Derived.Test.YtdomnccokhhieaaDoorPlain
namespace Go.Proofs.YtdomnccokhhieaaDoor.Plain
open Go.Lib

/-- the loop's variables: the characters, what is carried, the last place that was changed, its kind, whether a character without a kind was passed -/
structure SS where
  a : List Nat
  c : Nat
  la : Nat
  k : Nat
  sk : Bool
def kindN (r : Nat) : Nat := if (97 ≤ r ∧ r ≤ 122) ∨ (65 ≤ r ∧ r ≤ 90) then 1 else if 48 ≤ r ∧ r ≤ 57 then 2 else 0
def incR (r : Nat) : Prop := (97 ≤ r ∧ r ≤ 121) ∨ (65 ≤ r ∧ r ≤ 89) ∨ (48 ≤ r ∧ r ≤ 56)
instance (r : Nat) : Decidable (incR r) := by unfold incR; infer_instance
def SS.stop (st : SS) (r : Nat) : Prop := st.sk = true ∧ st.k ≠ 0 ∧ kindN r ≠ 0 ∧ kindN r ≠ st.k
instance (st : SS) (r : Nat) : Decidable (st.stop r) := by unfold SS.stop; infer_instance
def sloop : Nat → SS → SS
  | 0, st => st
  | i + 1, st =>
    if st.stop (st.a.getD i 0) then st
    else if incR (st.a.getD i 0) then ⟨st.a.set i (st.a.getD i 0 + 1), 32, i, st.k, st.sk⟩
    else if st.a.getD i 0 = 122 then sloop i ⟨st.a.set i 97, 97, i, 1, false⟩
    else if st.a.getD i 0 = 90 then sloop i ⟨st.a.set i 65, 65, i, 1, false⟩
    else if st.a.getD i 0 = 57 then sloop i ⟨st.a.set i 48, 49, i, 2, false⟩
    else sloop i ⟨st.a, st.c, st.la, st.k, true⟩
def sfin (st : SS) : List Nat :=
  if st.c ≠ 32 then st.a.take st.la ++ st.c :: st.a.drop st.la
  else if st.la = st.a.length then st.a.set (st.a.length - 1) (st.a.getD (st.a.length - 1) 0 + 1) else st.a
def succR (a : List Nat) : List Nat := sfin (sloop a.length ⟨a, 32, a.length, 0, false⟩)

theorem sloop_len : ∀ (i : Nat) (st : SS), (sloop i st).a.length = st.a.length
  | 0, _ => rfl
  | i + 1, st => by
    rw [sloop]
    split
    · rfl
    split
    · simp
    split
    · rw [sloop_len]; simp
    split
    · rw [sloop_len]; simp
    split
    · rw [sloop_len]; simp
    · rw [sloop_len]

/-! ### small letters alone -/
theorem getD_at (p q : List Nat) (x : Nat) : (p ++ x :: q).getD p.length 0 = x := by simp [List.getD]
theorem set_at (p q : List Nat) (x y : Nat) : (p ++ x :: q).set p.length y = p ++ y :: q := by simp
theorem kind_low {r : Nat} (h : 97 ≤ r ∧ r ≤ 122) : kindN r = 1 := by unfold kindN; rw [if_pos (.inl h)]
theorem not_stop (st : SS) (r : Nat) (h : st.sk = false) : ¬ st.stop r := by
  unfold SS.stop; rw [h]; simp
theorem sloop_z : ∀ (j : Nat) (p q : List Nat) (c la k : Nat), sloop (p.length + (j + 1)) ⟨p ++ (List.replicate (j + 1) 122 ++ q), c, la, k, false⟩ = sloop p.length ⟨p ++ (List.replicate (j + 1) 97 ++ q), 97, p.length, 1, false⟩
  | 0, p, q, c, la, k => by
    show sloop (p.length + 1) ⟨p ++ 122 :: q, c, la, k, false⟩ = sloop p.length ⟨p ++ 97 :: q, 97, p.length, 1, false⟩
    rw [sloop]
    simp only [getD_at, set_at]
    rw [if_neg (not_stop _ _ rfl), if_neg (by unfold incR; omega), if_pos trivial]
  | j + 1, p, q, c, la, k => by
    have e1 : p ++ (List.replicate (j + 1 + 1) 122 ++ q) = (p ++ [122]) ++ (List.replicate (j + 1) 122 ++ q) := by rw [List.replicate_succ]; simp
    have e2 : p.length + (j + 1 + 1) = (p ++ [122]).length + (j + 1) := by simp; omega
    rw [e1, e2, sloop_z j (p ++ [122]) q c la k]
    have e3 : (p ++ [122]).length = p.length + 1 := by simp
    rw [e3, sloop]
    have e4 : p ++ [122] ++ (List.replicate (j + 1) 97 ++ q) = p ++ 122 :: (List.replicate (j + 1) 97 ++ q) := by simp
    simp only [e4, getD_at, set_at]
    rw [if_neg (not_stop _ _ rfl), if_neg (by unfold incR; omega), if_pos trivial, List.replicate_succ (n := j + 1)]
    simp
theorem succ_zs (j : Nat) : succR (List.replicate (j + 1) 122) = List.replicate (j + 2) 97 := by
  unfold succR
  have h := sloop_z j [] [] 32 (j + 1) 0
  simp only [List.length_nil, Nat.zero_add, List.nil_append, List.append_nil] at h
  rw [List.length_replicate, h]
  show sfin ⟨List.replicate (j + 1) 97, 97, 0, 1, false⟩ = _
  unfold sfin
  simp [List.replicate_succ]
theorem sloop_inc (p q : List Nat) (x c la k : Nat) (hx : incR x) : sloop (p.length + 1) ⟨p ++ x :: q, c, la, k, false⟩ = ⟨p ++ (x + 1) :: q, 32, p.length, k, false⟩ := by
  rw [sloop]
  simp only [getD_at, set_at]
  rw [if_neg (not_stop _ _ rfl), if_pos hx]
theorem succ_mid (p : List Nat) (x : Nat) (hx : 97 ≤ x ∧ x ≤ 121) (j : Nat) : succR (p ++ x :: List.replicate j 122) = p ++ (x + 1) :: List.replicate j 97 := by
  have hi : incR x := .inl hx
  unfold succR
  cases j with
  | zero =>
    have e : (p ++ x :: List.replicate 0 122).length = p.length + 1 := by simp
    rw [e, sloop_inc p _ x _ _ _ hi]
    unfold sfin
    simp
  | succ j =>
    have e : (p ++ x :: List.replicate (j + 1) 122).length = (p ++ [x]).length + (j + 1) := by simp; omega
    have e2 : p ++ x :: List.replicate (j + 1) 122 = (p ++ [x]) ++ (List.replicate (j + 1) 122 ++ []) := by simp
    rw [e]
    conv => lhs; rw [e2]
    rw [sloop_z j (p ++ [x]) []]
    have e3 : (p ++ [x]).length = p.length + 1 := by simp
    have e4 : p ++ [x] ++ (List.replicate (j + 1) 97 ++ []) = p ++ x :: List.replicate (j + 1) 97 := by simp
    rw [e3, e4, sloop_inc p _ x _ _ _ hi]
    unfold sfin
    simp

/-! ### the documentation's way -/
/-- the last place below 'i' of a character with a kind -/
def pal (a : List Nat) : Nat → Option Nat
  | 0 => none
  | i + 1 => if kindN (a.getD i 0) ≠ 0 then some i else pal a i
def bumpN (r : Nat) : Nat × Nat := if r = 57 then (48, 49) else if r = 122 then (97, 97) else if r = 90 then (65, 65) else (r + 1, 0)
def insC (a : List Nat) (i c : Nat) : List Nat := a.take i ++ c :: a.drop i
def bsp : Nat → List Nat → Nat → List Nat
  | 0, a, _ => a
  | f + 1, a, i =>
    if (bumpN (a.getD i 0)).2 = 0 then a.set i (bumpN (a.getD i 0)).1
    else match pal (a.set i (bumpN (a.getD i 0)).1) i with
      | none => insC (a.set i (bumpN (a.getD i 0)).1) i (bumpN (a.getD i 0)).2
      | some j => if j + 1 < i ∧ kindN ((a.set i (bumpN (a.getD i 0)).1).getD j 0) ≠ kindN (a.getD i 0) then insC (a.set i (bumpN (a.getD i 0)).1) i (bumpN (a.getD i 0)).2 else bsp f (a.set i (bumpN (a.getD i 0)).1) j
theorem pal_lt {a : List Nat} : ∀ {i j : Nat}, pal a i = some j → j < i ∧ kindN (a.getD j 0) ≠ 0
  | i + 1, j, h => by
    rw [pal] at h
    split at h
    · rename_i hk
      cases h
      exact ⟨by omega, hk⟩
    · have := pal_lt h
      exact ⟨by omega, this.2⟩
theorem kind0 {r : Nat} (h : kindN r = 0) : ¬ incR r ∧ r ≠ 122 ∧ r ≠ 90 ∧ r ≠ 57 := by
  unfold kindN at h
  split at h
  · cases h
  split at h
  · cases h
  · unfold incR; omega
theorem kind1 {r : Nat} (h : kindN r ≠ 0) : incR r ∨ r = 122 ∨ r = 90 ∨ r = 57 := by
  unfold kindN at h
  unfold incR
  split at h
  · omega
  split at h
  · omega
  · exact absurd rfl h
theorem sloop_skip (i : Nat) (st : SS) (h : kindN (st.a.getD i 0) = 0) : sloop (i + 1) st = sloop i ⟨st.a, st.c, st.la, st.k, true⟩ := by
  obtain ⟨h1, h2, h3, h4⟩ := kind0 h
  rw [sloop, if_neg (by unfold SS.stop; rw [h]; simp), if_neg h1, if_neg h2, if_neg h3, if_neg h4]
theorem sloop_none : ∀ (i : Nat) (st : SS), pal st.a i = none → sfin (sloop i st) = sfin st
  | 0, _, _ => rfl
  | i + 1, st, h => by
    rw [pal] at h
    split at h
    · cases h
    · rename_i hk
      rw [sloop_skip i st (by omega)]
      exact (sloop_none i ⟨st.a, st.c, st.la, st.k, true⟩ h).trans rfl
theorem sloop_some : ∀ (i j : Nat) (st : SS), pal st.a i = some j → sloop i st = sloop (j + 1) ⟨st.a, st.c, st.la, st.k, st.sk || decide (j + 1 < i)⟩
  | i + 1, j, st, h => by
    have hlt := (pal_lt h).1
    rw [pal] at h
    split at h
    · cases h
      simp
    · rename_i hk
      have h2 := (pal_lt h).1
      rw [sloop_skip i st (by omega), sloop_some i j ⟨st.a, st.c, st.la, st.k, true⟩ h]
      have e : (decide (j + 1 < i + 1)) = true := by simp; omega
      rw [e]
      simp
theorem bump_z : bumpN 122 = (97, 97) ∧ bumpN 90 = (65, 65) ∧ bumpN 57 = (48, 49) := by decide
theorem bump_inc {r : Nat} (h : incR r) : bumpN r = (r + 1, 0) := by
  unfold incR at h
  unfold bumpN
  rw [if_neg (by omega), if_neg (by omega), if_neg (by omega)]
/-- at a character with a kind that does not stop the loop -/
theorem sloop_at : ∀ (j : Nat) (st : SS), j < st.a.length → kindN (st.a.getD j 0) ≠ 0 → ¬ st.stop (st.a.getD j 0) → sfin (sloop (j + 1) st) = bsp (j + 1) st.a j := by
  intro j
  induction j using Nat.strongRecOn with
  | _ j ih =>
    intro st hj hk hs
    obtain ⟨r, hr⟩ : ∃ r, st.a.getD j 0 = r := ⟨_, rfl⟩
    rw [hr] at hk hs
    have next : ∀ (x c k : Nat), c ≠ 32 → k ≠ 0 → kindN r = k → bumpN r = (x, c) → c ≠ 0 → sfin (sloop j ⟨st.a.set j x, c, j, k, false⟩) = bsp (j + 1) st.a j := by
      intro x c k hc hk0 hkr hb hc0
      rw [bsp, hr, hb]
      dsimp only
      rw [if_neg hc0]
      cases hp : pal (st.a.set j x) j with
      | none =>
        rw [sloop_none j ⟨st.a.set j x, c, j, k, false⟩ hp]
        unfold sfin insC
        rw [if_pos hc]
      | some i =>
        obtain ⟨hi, hki⟩ := pal_lt hp
        rw [sloop_some j i ⟨st.a.set j x, c, j, k, false⟩ hp]
        dsimp only
        by_cases hst : i + 1 < j ∧ kindN ((st.a.set j x).getD i 0) ≠ k
        · rw [hkr, if_pos hst, sloop, if_pos ⟨by simp [hst.1], hk0, hki, hst.2⟩]
          unfold sfin insC
          rw [if_pos hc]
        · rw [hkr, if_neg hst, ih i hi _ (by simp; omega) hki (by
            unfold SS.stop
            simp only [Bool.false_or, decide_eq_true_eq]
            intro ⟨a1, _, _, a4⟩
            exact hst ⟨a1, a4⟩)]
          have fuel : ∀ (f g : Nat) (a : List Nat) (m : Nat), m < f → m < g → bsp f a m = bsp g a m := by
            intro f
            induction f with
            | zero => intro g a m h1; omega
            | succ f ihf =>
              intro g a m h1 h2
              obtain ⟨g', rfl⟩ : ∃ g', g = g' + 1 := ⟨g - 1, by omega⟩
              rw [bsp, bsp]
              split
              · rfl
              · split
                · rfl
                · rename_i q hq
                  have := (pal_lt hq).1
                  split
                  · rfl
                  · exact ihf g' _ q (by omega) (by omega)
          exact fuel _ _ _ _ (by omega) hi
    rw [sloop, hr, if_neg hs]
    rcases kind1 hk with h | h | h | h
    · rw [if_pos h, bsp, hr, bump_inc h]
      unfold sfin
      simp only [ne_eq, not_true_eq_false, if_false, List.length_set]
      rw [if_neg (by omega)]
      rfl
    · subst h
      rw [if_neg (by decide), if_pos rfl]
      exact next 97 97 1 (by decide) (by decide) (by decide) rfl (by decide)
    · subst h
      rw [if_neg (by decide), if_neg (by decide), if_pos rfl]
      exact next 65 65 1 (by decide) (by decide) (by decide) rfl (by decide)
    · subst h
      rw [if_neg (by decide), if_neg (by decide), if_neg (by decide), if_pos rfl]
      exact next 48 49 2 (by decide) (by decide) (by decide) rfl (by decide)
theorem succ_spec (a : List Nat) : succR a = match pal a a.length with | none => a.set (a.length - 1) (a.getD (a.length - 1) 0 + 1) | some j => bsp (j + 1) a j := by
  unfold succR
  cases hp : pal a a.length with
  | none =>
    rw [sloop_none _ ⟨a, 32, a.length, 0, false⟩ hp]
    unfold sfin
    simp
  | some j =>
    obtain ⟨hj, hk⟩ := pal_lt hp
    rw [sloop_some _ j ⟨a, 32, a.length, 0, false⟩ hp]
    exact sloop_at j _ hj hk (by unfold SS.stop; simp)
end Go.Proofs.YtdomnccokhhieaaDoor.Plain
