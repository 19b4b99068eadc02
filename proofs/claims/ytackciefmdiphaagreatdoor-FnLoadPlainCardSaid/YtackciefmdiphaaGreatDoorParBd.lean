/- Bounds on what the parser keeps. -/
import Derived.Test.YtackciefmdiphaaGreatDoorItLaw
import Derived.Test.YtackciefmdiphaaGreatDoorParM2
set_option linter.unusedVariables false
namespace Go.Proofs.YtackciefmdiphaaGreatDoor
open Go.RowKit Plain Go.Maps

/-- the parser's state is small -/
structure PBd (M N : Nat) (p : PSt) : Prop where
  tidy : Tidy p.D
  keys : ∀ k ∈ p.ks, k.size ≤ M
  kn : p.ks.length ≤ N
  dn : Maps.size p.D ≤ N
  cn : ∀ k c, p.cf k = some c → c.length ≤ N
  has : ∀ k ∈ p.ks, Maps.has p.D (keyL8 k) = true
  vals : ∀ k, (rawOf p.D k).size ≤ M
theorem rawOf_put {D : DataW Unit} (hD : IsMap D) (k v x : ByteArray) : rawOf (D.put (keyL8 k) (.lit (.string v.data.toList))) x = if k = x then v else rawOf D x := by
  by_cases h : k = x
  · subst h
    rw [if_pos rfl, rawOf_of (atKey_put_same (k := keyL8 k) hD (keyL8_key k) _ _)]
  · have hne : keyL8 x ≠ keyL8 k := fun e => h (by
      unfold keyL8 at e
      injection e with e
      exact (ByteArray.ext (Array.toList_inj.1 e)).symm)
    rw [if_neg h]
    unfold rawOf
    rw [atKey_put_other hne]
theorem PBd.add {M N : Nat} {p : PSt} (h : PBd M N p) {T V : ByteArray} {cm : List ByteArray} (hT : T.size ≤ M) (hV : V.size ≤ M) (hc : cm.length ≤ N + 1) : PBd M (N + 1) (putV (addC (addK p T) T cm) T V) := by
  have e1 : (putV (addC (addK p T) T cm) T V).D = p.D.put (keyL8 T) (.lit (.string V.data.toList)) := by
    unfold putV addC addK
    split <;> split <;> rfl
  have e2 : (putV (addC (addK p T) T cm) T V).ks = if Maps.has p.D (keyL8 T) = true then p.ks else p.ks ++ [T] := by
    unfold putV addC addK
    split <;> split <;> rfl
  have e3 : (putV (addC (addK p T) T cm) T V).cf = if cm = [] then p.cf else updC p.cf T cm := by
    unfold putV addC addK
    split <;> split <;> rfl
  obtain ⟨f1, f2, f3, f4⟩ := addP_facts p T V cm h.tidy.isMap h.has
  refine ⟨?_, ?_, ?_, ?_, ?_, f2, ?_⟩
  · rw [e1]; exact h.tidy.put (keyL8_key T) _
  · intro k hk
    rw [e2] at hk
    split at hk
    · exact h.keys k hk
    · rcases List.mem_append.1 hk with h9 | h9
      · exact h.keys k h9
      · simp at h9; subst h9; exact hT
  · have := h.kn; omega
  · rw [e1, size_put h.tidy]
    have := h.dn
    split <;> omega
  · intro k c hk
    rw [e3] at hk
    split at hk
    · have := h.cn k c hk; omega
    · unfold updC at hk
      split at hk
      · injection hk with hk; subst hk; exact hc
      · have := h.cn k c hk; omega
  · intro k
    rw [e1, rawOf_put h.tidy.isMap]
    split
    · exact hV
    · exact h.vals k
theorem PBd.mono {M N N' : Nat} {p : PSt} (h : PBd M N p) (hn : N ≤ N') : PBd M N' p :=
  ⟨h.tidy, h.keys, Nat.le_trans h.kn hn, Nat.le_trans h.dn hn, fun k c hk => Nat.le_trans (h.cn k c hk) hn, h.has, h.vals⟩
theorem pbd0 (M N : Nat) : PBd M N pst0 := ⟨tidy_empty, fun k hk => by simp [pst0] at hk, Nat.zero_le _, Nat.zero_le _, fun k c hk => by simp [pst0] at hk, fun k hk => by simp [pst0] at hk, fun k => by
  have : rawOf pst0.D k = ⟨#[]⟩ := rfl
  rw [this]
  exact Nat.zero_le _⟩
theorem parL_bd (M : Nat) : ∀ (m : Nat) (l : List LI) (cm : List ByteArray) (p p' : PSt) (N : Nat), l.length ≤ m → (∀ x ∈ l, x.text.size ≤ M) → PBd M N p → cm.length ≤ N → parL l cm p = some p' → PBd M (N + l.length) p' := by
  intro m
  induction m with
  | zero => intro l cm p p' N hl; cases l with
    | nil => intro _ _ _ h; simp [parL] at h
    | cons x r => simp at hl
  | succ m ih =>
    intro l cm p p' N hl hx hp hc h
    cases l with
    | nil => simp [parL] at h
    | cons x r =>
      have hxT := hx x List.mem_cons_self
      simp only [List.length_cons] at hl
      unfold parL at h
      by_cases h1 : x.kind = 1
      · rw [if_pos h1] at h
        injection h with h
        subst h
        exact hp.mono (by omega)
      · rw [if_neg h1] at h
        by_cases h4 : x.kind = 4
        · rw [if_pos h4] at h
          have := ih r _ p p' (N + 1) (by omega) (fun y hy => hx y (List.mem_cons_of_mem _ hy)) (hp.mono (by omega)) (by simp; omega) h
          exact this.mono (by simp; omega)
        · rw [if_neg h4] at h
          by_cases h2 : x.kind = 2
          · rw [if_pos h2] at h
            cases r with
            | nil => cases h
            | cons y r =>
              simp only [List.length_cons] at hl
              dsimp only at h
              by_cases hy1 : y.kind = 1
              · rw [if_pos hy1] at h
                injection h with h
                subst h
                exact (hp.add hxT (Nat.zero_le _) (by omega)).mono (by simp)
              · rw [if_neg hy1] at h
                by_cases hy3 : y.kind = 3
                · rw [if_pos hy3] at h
                  have hyT := hx y (List.mem_cons_of_mem _ List.mem_cons_self)
                  have := ih r [] _ p' (N + 1) (by omega) (fun z hz => hx z (List.mem_cons_of_mem _ (List.mem_cons_of_mem _ hz))) (hp.add hxT hyT (by omega)) (Nat.zero_le _) h
                  exact this.mono (by simp; omega)
                · rw [if_neg hy3] at h
                  cases h
          · rw [if_neg h2] at h
            cases h
theorem parL_small (s : ByteArray) (p : PSt) (hs : s.size ≤ 100000) (h : parL (lexL s) [] pst0 = some p) : PBd 1000000 1000000 p := by
  have hl := lexN_len s (4 * s.size + 4) .before 0
  have := parL_bd 1000000 _ (lexL s) [] pst0 p 0 (Nat.le_refl _) (fun x hx => by have := lexL_text s x hx; omega) (pbd0 _ _) (Nat.zero_le _) h
  exact this.mono (by unfold lexL; omega)
theorem mp_size {w : World} {mb n : Nat} {D : DataW Unit} (h : MpS w mb n D) : MpS w mb (Maps.size D) D := by
  obtain ⟨es, clock, hb, F, hs, rfl⟩ := h
  exact ⟨es, clock, hb, F, by simp [Maps.size, length_sorted], rfl⟩
end Go.Proofs.YtackciefmdiphaaGreatDoor
