/- The plain law behind FnItems: items' places rise; what items tell is what the parser keeps. -/
import Derived.Test.YtackciefmdiphaaGreatDoorItemProps
set_option linter.unusedVariables false
namespace Go.Proofs.YtackciefmdiphaaGreatDoor
open Go.RowKit Plain Go.Maps

/-- places rise from 'lo', and are at most 'hi' -/
def Rise (hi : Nat) : Nat → List LI → Prop
  | _, [] => True
  | lo, x :: r => lo ≤ x.pos ∧ x.pos ≤ hi ∧ Rise hi x.pos r
theorem rise_mono {hi lo lo' : Nat} {l : List LI} (h : Rise hi lo l) (hl : lo' ≤ lo) : Rise hi lo' l := by
  cases l with
  | nil => trivial
  | cons x r => exact ⟨Nat.le_trans hl h.1, h.2⟩
theorem lexS_shape (s : ByteArray) (nx : NX) (p : Nat) (hp : p ≤ s.size) :
    (∃ x, lexS s nx p = ([], some x)) ∨ (∃ a x, lexS s nx p = ([a], some x) ∧ p ≤ a.pos ∧ a.pos ≤ x.2) ∨ (∃ a, lexS s nx p = ([a], none) ∧ p ≤ a.pos ∧ a.pos ≤ s.size) ∨ (∃ a b, lexS s nx p = ([a, b], none) ∧ p ≤ a.pos ∧ a.pos ≤ b.pos ∧ b.pos ≤ s.size) := by
  cases nx with
  | before =>
    by_cases h : p < s.size
    · left
      unfold lexS
      dsimp only
      rw [if_pos h]
      repeat' split
      all_goals exact ⟨_, rfl⟩
    · right; right; left
      exact ⟨⟨1, p, emptyB⟩, by unfold lexS; dsimp only; rw [if_neg h], Nat.le_refl _, hp⟩
  | comment =>
    have h1 := skipW_ge s p
    have h2 := skipW_le s p hp
    have h3 := comL_bd s (skipW s p) [] h2
    rcases hc : comL s (skipW s p) [] with ⟨acc, q, b⟩
    rw [hc] at h3
    cases b
    · right; left
      exact ⟨⟨4, skipW s p, textOf acc⟩, (.before, q), by unfold lexS; dsimp only; rw [hc], h1, h3.1⟩
    · right; right; left
      exact ⟨⟨1, q, textOf acc⟩, by unfold lexS; dsimp only; rw [hc], Nat.le_trans h1 h3.1, h3.2.1⟩
  | key =>
    rcases hk : keyL s p [] with e | ⟨acc, q, b⟩
    · right; right; left
      exact ⟨⟨0, p, e⟩, by unfold lexS; dsimp only; rw [hk], Nat.le_refl _, hp⟩
    · have h3 := keyL_bd s p [] hp _ hk
      by_cases ha : acc = [] <;> cases b
      · left
        exact ⟨(.bval, q), by unfold lexS; dsimp only; rw [hk]; simp [ha]⟩
      · right; right; left
        exact ⟨⟨1, q, emptyB⟩, by unfold lexS; dsimp only; rw [hk]; simp [ha], h3.1, h3.2⟩
      · right; left
        exact ⟨⟨2, p, textOf acc⟩, (.bval, q), by unfold lexS; dsimp only; rw [hk]; simp [ha], Nat.le_refl _, h3.1⟩
      · right; right; right
        exact ⟨⟨2, p, textOf acc⟩, ⟨1, q, emptyB⟩, by unfold lexS; dsimp only; rw [hk]; simp [ha], Nat.le_refl _, h3.1, h3.2⟩
  | bval => left; exact ⟨(.val, bvalP s p), rfl⟩
  | val =>
    rcases hk : valL s p [] with e | ⟨acc, q, b⟩
    · right; right; left
      exact ⟨⟨0, p, e⟩, by unfold lexS; dsimp only; rw [hk], Nat.le_refl _, hp⟩
    · have h3 := valL_bd s p [] hp _ hk
      cases b
      · right; left
        exact ⟨⟨3, p, textOf acc⟩, (.before, q), by unfold lexS; dsimp only; rw [hk]; simp, Nat.le_refl _, h3.1⟩
      · right; right; right
        exact ⟨⟨3, p, textOf acc⟩, ⟨1, q, emptyB⟩, by unfold lexS; dsimp only; rw [hk]; simp, Nat.le_refl _, h3.1, h3.2.1⟩
theorem rise_lexN (s : ByteArray) : ∀ (f : Nat) (nx : NX) (p : Nat), p ≤ s.size → Rise s.size p (lexN s f nx p) := by
  intro f
  induction f with
  | zero => intro nx p hp; trivial
  | succ f ih =>
    intro nx p hp
    unfold lexN
    have hm := fun x hx => lexS_mu s nx p hp x hx
    rcases lexS_shape s nx p hp with ⟨x, hx⟩ | ⟨a, x, hx, h1, h2⟩ | ⟨a, hx, h1, h2⟩ | ⟨a, b, hx, h1, h2, h3⟩
    · rw [hx] at hm ⊢
      have hq := hm x rfl
      exact rise_mono (ih x.1 x.2 hq.2.1) hq.1
    · rw [hx] at hm ⊢
      have hq := hm x rfl
      exact ⟨h1, Nat.le_trans h2 hq.2.1, rise_mono (ih x.1 x.2 hq.2.1) h2⟩
    · rw [hx]
      exact ⟨h1, h2, trivial⟩
    · rw [hx]
      exact ⟨h1, Nat.le_trans h2 h3, h2, h3, trivial⟩
theorem rise_out {hi : Nat} : ∀ {l : List LI} {lo : Nat}, Rise hi lo l → Rise hi lo (outI l) := by
  intro l
  induction l with
  | nil => intro lo h; trivial
  | cons x r ih =>
    intro lo h
    have hp : (outX x).pos = x.pos := by unfold outX; split <;> rfl
    show lo ≤ (outX x).pos ∧ (outX x).pos ≤ hi ∧ Rise hi (outX x).pos (outI r)
    rw [hp]
    exact ⟨h.1, h.2.1, ih h.2.2⟩
theorem rise_at {hi : Nat} : ∀ {l : List LI} {lo : Nat}, Rise hi lo l → ∀ (i : Nat) (x : LI), l[i]? = some x → x.pos ≤ hi ∧ ∀ (j : Nat) (y : LI), i = j + 1 → l[j]? = some y → y.pos ≤ x.pos := by
  intro l
  induction l with
  | nil => intro lo h i x hx; simp at hx
  | cons z r ih =>
    intro lo h i x hx
    match i, hx with
    | 0, hx =>
      simp at hx
      subst hx
      exact ⟨h.2.1, fun j y e _ => by omega⟩
    | i + 1, hx =>
      have hx' : r[i]? = some x := by simpa using hx
      have h9 := ih h.2.2 i x hx'
      refine ⟨h9.1, fun j y e hy => ?_⟩
      obtain rfl : i = j := by omega
      match i, hy with
      | 0, hy =>
        simp at hy
        subst hy
        cases r with
        | nil => simp at hx'
        | cons u r =>
          simp at hx'
          subst hx'
          exact h.2.2.1
      | i + 1, hy =>
        have hy' : r[i]? = some y := by simpa using hy
        exact h9.2 i y rfl hy'
/-- the end or an error stands last, and there alone -/
theorem wfI_at : ∀ {l : List LI}, WfI l → ∀ (i : Nat) (x : LI), l[i]? = some x → x.kind ≤ 4 ∧ (x.kind < 2 ↔ i + 1 = l.length) := by
  intro l
  induction l with
  | nil => intro h i x hx; simp at hx
  | cons z r ih =>
    intro h i x hx
    cases r with
    | nil =>
      have h0 : z.kind < 2 := h
      match i, hx with
      | 0, hx => simp at hx; subst hx; exact ⟨by omega, by simp; exact h0⟩
      | i + 1, hx => simp at hx
    | cons y r =>
      obtain ⟨h1, h2, h3⟩ : 2 ≤ z.kind ∧ z.kind ≤ 4 ∧ WfI (y :: r) := h
      match i, hx with
      | 0, hx => simp at hx; subst hx; exact ⟨h2, by simp; omega⟩
      | i + 1, hx =>
        have hx' : (y :: r)[i]? = some x := by simpa using hx
        have h9 := ih h3 i x hx'
        refine ⟨h9.1, h9.2.trans ?_⟩
        simp
/-- the value at a key -/
def rawOf (D : DataW Unit) (k : ByteArray) : ByteArray := match D.atKey (keyL8 k) (.lit (.string [])) with | .lit (.string l) => ⟨l.toArray⟩ | _ => ⟨#[]⟩
theorem rawOf_of {D : DataW Unit} {k v : ByteArray} (h : D.atKey (keyL8 k) (.lit (.string [])) = .lit (.string v.data.toList)) : rawOf D k = v := by
  unfold rawOf
  rw [h]
def rawO (D : DataW Unit) (k : ByteArray) : Option ByteArray := if Maps.has D (keyL8 k) = true then some (rawOf D k) else none
theorem keyL8_key (k : ByteArray) : WideAt.IsKeyLit (keyL8 k) := by unfold keyL8; trivial
theorem rawO_put {D : DataW Unit} (hD : IsMap D) (k v x : ByteArray) : rawO (D.put (keyL8 k) (.lit (.string v.data.toList))) x = if k = x then some v else rawO D x := by
  unfold rawO
  by_cases h : k = x
  · subst h
    rw [if_pos rfl, has_put_same (k := keyL8 k) hD (keyL8_key k), if_pos rfl, rawOf_of (atKey_put_same (k := keyL8 k) hD (keyL8_key k) _ _)]
  · have hne : keyL8 x ≠ keyL8 k := fun e => h (by
      unfold keyL8 at e
      injection e with e
      exact (ByteArray.ext (Array.toList_inj.1 e)).symm)
    rw [if_neg h, has_put_other hne]
    unfold rawOf
    rw [atKey_put_other hne]
theorem has_rawO {D : DataW Unit} {k : ByteArray} (h : Maps.has D (keyL8 k) = true) : rawO D k = some (rawOf D k) := by unfold rawO; rw [if_pos h]
/-- the last value of a key -/
def lastF : List (ByteArray × ByteArray) → ByteArray → Option ByteArray → Option ByteArray
  | [], _, a => a
  | q :: r, k, a => lastF r k (if q.1 = k then some q.2 else a)
theorem isMap_put {D : DataW Unit} (h : IsMap D) (k : Lit) (d : DataW Unit) : IsMap (D.put k d) := by
  obtain ⟨es, rfl⟩ := h
  exact ⟨_, rfl⟩
theorem has_isKey {D : DataW Unit} {k x : ByteArray} {d : DataW Unit} (hD : IsMap D) (h : Maps.has D (keyL8 x) = true ∨ x = k) : Maps.has (D.put (keyL8 k) d) (keyL8 x) = true := by
  by_cases e : x = k
  · subst e
    exact has_put_same (k := keyL8 x) hD (keyL8_key x) _
  · have hne : keyL8 x ≠ keyL8 k := fun e' => e (by
      unfold keyL8 at e'
      injection e' with e'
      exact ByteArray.ext (Array.toList_inj.1 e'))
    rw [has_put_other hne]
    rcases h with h | h
    · exact h
    · exact absurd h e
/-- one key and its value: what the parser's state is then -/
theorem addP_facts (p : PSt) (T V : ByteArray) (cm : List ByteArray) (hD : IsMap p.D) (hks : ∀ k ∈ p.ks, Maps.has p.D (keyL8 k) = true) :
    IsMap (putV (addC (addK p T) T cm) T V).D ∧ (∀ k ∈ (putV (addC (addK p T) T cm) T V).ks, Maps.has (putV (addC (addK p T) T cm) T V).D (keyL8 k) = true) ∧
    (∀ k, rawO (putV (addC (addK p T) T cm) T V).D k = if T = k then some V else rawO p.D k) ∧ (putV (addC (addK p T) T cm) T V).ks.length ≤ p.ks.length + 1 := by
  have e1 : (putV (addC (addK p T) T cm) T V).D = p.D.put (keyL8 T) (.lit (.string V.data.toList)) := by
    unfold putV addC addK
    split <;> split <;> rfl
  have e2 : (putV (addC (addK p T) T cm) T V).ks = if Maps.has p.D (keyL8 T) = true then p.ks else p.ks ++ [T] := by
    unfold putV addC addK
    split <;> split <;> rfl
  rw [e1, e2]
  refine ⟨isMap_put hD _ _, ?_, fun k => rawO_put hD T V k, ?_⟩
  · intro k hk
    refine has_isKey hD ?_
    split at hk
    · exact .inl (hks k hk)
    · rcases List.mem_append.1 hk with h | h
      · exact .inl (hks k h)
      · simp at h; exact .inr h
  · split <;> simp
theorem outI_cons (x : LI) (r : List LI) : outI (x :: r) = outX x :: outI r := rfl
theorem outX_ne {x : LI} (h : x.kind ≠ 0) : outX x = x := by unfold outX; rw [if_neg h]
theorem ipL_skip {x : LI} {r : List LI} (h0 : x.kind ≠ 0) (h2 : x.kind ≠ 2) : ipL (outI (x :: r)) = ipL (outI r) := by
  rw [outI_cons, outX_ne h0, ipL, if_neg h0, if_neg h2]
theorem ipL_key {x : LI} {r : List LI} (h2 : x.kind = 2) : ipL (outI (x :: r)) = (ipL (outI r)).map ((x.text, valN (outI r)) :: ·) := by
  rw [outI_cons, outX_ne (by omega), ipL, if_neg (by omega), if_pos h2]
theorem valN_out (y : LI) (r : List LI) : valN (outI (y :: r)) = if y.kind = 3 then y.text else ⟨#[]⟩ := by
  rw [outI_cons]
  show (if (outX y).kind = 3 then (outX y).text else ⟨#[]⟩) = _
  by_cases h : y.kind = 0
  · unfold outX; rw [if_pos h, if_neg (show ¬ (0 : Nat) = 3 by omega), if_neg (by omega)]
  · rw [outX_ne h]
theorem parL_err : ∀ (n : Nat) (l : List LI) (cm : List ByteArray) (p : PSt), l.length ≤ n → WfI l → ipL (outI l) = none → parL l cm p = none := by
  intro n
  induction n with
  | zero => intro l cm p hn hw _; cases l with
    | nil => exact hw.elim
    | cons x r => simp at hn
  | succ n ih =>
    intro l cm p hn hw h
    match l, hw, hn with
    | [x], hw, hn =>
      have hx : x.kind < 2 := hw
      by_cases h0 : x.kind = 0
      · unfold parL
        rw [if_neg (by omega), if_neg (by omega), if_neg (by omega)]
      · rw [ipL_skip h0 (by omega)] at h
        simp [outI, ipL] at h
    | x :: y :: r, hw, hn =>
      obtain ⟨h1, h2, h3⟩ : 2 ≤ x.kind ∧ x.kind ≤ 4 ∧ WfI (y :: r) := hw
      have hn' : (y :: r).length ≤ n := by simp at hn ⊢; omega
      unfold parL
      rw [if_neg (by omega)]
      by_cases h4 : x.kind = 4
      · rw [if_pos h4]
        rw [ipL_skip (by omega) (by omega)] at h
        exact ih _ _ _ hn' h3 h
      · rw [if_neg h4]
        by_cases hk : x.kind = 2
        · rw [if_pos hk]
          rw [ipL_key hk, Option.map_eq_none_iff] at h
          dsimp only
          by_cases hy1 : y.kind = 1
          · exfalso
            cases r with
            | nil =>
              rw [ipL_skip (by omega) (by omega)] at h
              simp [outI, ipL] at h
            | cons z r => have : 2 ≤ y.kind := h3.1; omega
          · rw [if_neg hy1]
            by_cases hy3 : y.kind = 3
            · rw [if_pos hy3]
              rw [ipL_skip (by omega) (by omega)] at h
              cases r with
              | nil => have : y.kind < 2 := h3; omega
              | cons z r => exact ih _ _ _ (by simp at hn' ⊢; omega) h3.2.2 h
            · rw [if_neg hy3]
        · rw [if_neg hk]
theorem parL_ip : ∀ (n : Nat) (l : List LI) (cm : List ByteArray) (p p' : PSt) (ps : List (ByteArray × ByteArray)), l.length ≤ n → WfI l → IsMap p.D → (∀ k ∈ p.ks, Maps.has p.D (keyL8 k) = true) → parL l cm p = some p' → ipL (outI l) = some ps →
    (∀ k ∈ p'.ks, Maps.has p'.D (keyL8 k) = true) ∧ (∀ k, rawO p'.D k = lastF ps k (rawO p.D k)) ∧ p'.ks.length ≤ p.ks.length + ps.length := by
  intro n
  induction n with
  | zero => intro l cm p p' ps hn hw; cases l with
    | nil => exact hw.elim
    | cons x r => simp at hn
  | succ n ih =>
    intro l cm p p' ps hn hw hD hks hp hi
    match l, hw, hn with
    | [x], hw, hn =>
      have hx : x.kind < 2 := hw
      unfold parL at hp
      by_cases h1 : x.kind = 1
      · rw [if_pos h1] at hp
        injection hp with hp
        subst hp
        rw [ipL_skip (by omega) (by omega)] at hi
        simp [outI, ipL] at hi
        subst hi
        exact ⟨hks, fun k => rfl, Nat.le_refl _⟩
      · rw [if_neg h1, if_neg (by omega), if_neg (by omega)] at hp
        cases hp
    | x :: y :: r, hw, hn =>
      obtain ⟨h1, h2, h3⟩ : 2 ≤ x.kind ∧ x.kind ≤ 4 ∧ WfI (y :: r) := hw
      have hn' : (y :: r).length ≤ n := by simp at hn ⊢; omega
      unfold parL at hp
      rw [if_neg (by omega)] at hp
      by_cases h4 : x.kind = 4
      · rw [if_pos h4] at hp
        rw [ipL_skip (by omega) (by omega)] at hi
        exact ih _ _ _ _ _ hn' h3 hD hks hp hi
      · rw [if_neg h4] at hp
        by_cases hk : x.kind = 2
        · rw [if_pos hk] at hp
          rw [ipL_key hk] at hi
          obtain ⟨qs, hqs, rfl⟩ := Option.map_eq_some_iff.1 hi
          rw [valN_out]
          dsimp only at hp
          by_cases hy1 : y.kind = 1
          · rw [if_pos hy1] at hp
            injection hp with hp
            subst hp
            obtain ⟨f1, f2, f3, f4⟩ := addP_facts p x.text emptyB cm hD hks
            cases r with
            | nil =>
              rw [ipL_skip (by omega) (by omega)] at hqs
              simp [outI, ipL] at hqs
              subst hqs
              rw [if_neg (by omega)]
              exact ⟨f2, fun k => by rw [f3 k]; rfl, by simpa using f4⟩
            | cons z r => have : 2 ≤ y.kind := h3.1; omega
          · rw [if_neg hy1] at hp
            by_cases hy3 : y.kind = 3
            · rw [if_pos hy3] at hp ⊢
              rw [ipL_skip (by omega) (by omega)] at hqs
              obtain ⟨f1, f2, f3, f4⟩ := addP_facts p x.text y.text cm hD hks
              cases r with
              | nil => have : y.kind < 2 := h3; omega
              | cons z r =>
                obtain ⟨g1, g2, g3⟩ := ih _ _ _ _ _ (by simp at hn' ⊢; omega) h3.2.2 f1 f2 hp hqs
                refine ⟨g1, fun k => ?_, ?_⟩
                · rw [g2 k, f3 k]
                  rfl
                · simp
                  omega
            · rw [if_neg hy3] at hp
              cases hp
        · rw [if_neg hk] at hp
          cases hp
/-- the law: what a text's items tell is what its parser keeps -/
theorem items_law (s : ByteArray) (p : PSt) (ps : List (ByteArray × ByteArray)) (hp : parL (lexL s) [] pst0 = some p) (hi : ipL (outI (lexL s)) = some ps) :
    (∀ k ∈ p.ks, lastF ps k none = some (rawOf p.D k)) ∧ p.ks.length ≤ ps.length := by
  obtain ⟨h1, h2, h3⟩ := parL_ip _ _ [] pst0 p ps (Nat.le_refl _) (wfI_lexL s) ⟨[], rfl⟩ (fun k hk => by simp [pst0] at hk) hp hi
  refine ⟨fun k hk => ?_, by simpa [pst0] using h3⟩
  rw [← has_rawO (h1 k hk), h2 k]
  rfl
end Go.Proofs.YtackciefmdiphaaGreatDoor
