/- The lexer's plain function at a text that is written out: by fuel, for the kernel to reckon. -/
import Derived.Test.YtackciefmdiphaaGreatDoorLexLaw
set_option linter.unusedVariables false
namespace Go.Proofs.YtackciefmdiphaaGreatDoor
open Go.RowKit Plain

def skipF (s : ByteArray) : Nat → Nat → Option Nat
  | 0, _ => none
  | f + 1, p => if p < s.size then (if wsR (rAt s p) then skipF s f (p + kAt s p) else some p) else some p
theorem skipF_eq (s : ByteArray) : ∀ (f p q : Nat), skipF s f p = some q → skipW s p = q := by
  intro f
  induction f with
  | zero => intro p q h; cases h
  | succ f ih =>
    intro p q h
    unfold skipF at h
    unfold skipW
    by_cases hp : p < s.size
    · rw [if_pos hp] at h
      rw [dif_pos hp]
      by_cases hw : wsR (rAt s p) = true
      · rw [if_pos hw] at h ⊢
        exact ih _ _ h
      · rw [if_neg hw] at h ⊢
        exact Option.some.inj h
    · rw [if_neg hp] at h
      rw [dif_neg hp]
      exact Option.some.inj h
def keyF (s : ByteArray) : Nat → Nat → List Nat → Option (Except ByteArray (List Nat × Nat × Bool))
  | 0, _, _ => none
  | f + 1, p, acc =>
    if p < s.size then
      if rAt s p = 92 then
        match scanE s (p + kAt s p) with
        | none => some (.error (badEsc s (p + kAt s p)))
        | some x => keyF s f x.2 (acc ++ [x.1])
      else if endK (rAt s p) then some (.ok (acc, p, false))
      else keyF s f (p + kAt s p) (acc ++ [rAt s p])
    else some (.ok (acc, p, true))
theorem keyF_eq (s : ByteArray) : ∀ (f p : Nat) (acc : List Nat) (r : Except ByteArray (List Nat × Nat × Bool)), keyF s f p acc = some r → keyL s p acc = r := by
  intro f
  induction f with
  | zero => intro p acc r h; cases h
  | succ f ih =>
    intro p acc r h
    unfold keyF at h
    unfold keyL
    by_cases hp : p < s.size
    · rw [if_pos hp] at h
      rw [dif_pos hp]
      by_cases h92 : rAt s p = 92
      · rw [if_pos h92] at h ⊢
        cases hE : scanE s (p + kAt s p) with
        | none =>
          rw [hE] at h
          split
          · exact Option.some.inj h
          · rename_i x hx; cases hx
        | some y =>
          rw [hE] at h
          split
          · rename_i hx; cases hx
          · rename_i x hx
            injection hx with hx
            subst hx
            exact ih _ _ _ h
      · rw [if_neg h92] at h ⊢
        by_cases he : endK (rAt s p) = true
        · rw [if_pos he] at h ⊢
          exact Option.some.inj h
        · rw [if_neg he] at h ⊢
          exact ih _ _ _ h
    · rw [if_neg hp] at h
      rw [dif_neg hp]
      exact Option.some.inj h
def valF (s : ByteArray) : Nat → Nat → List Nat → Option (Except ByteArray (List Nat × Nat × Bool))
  | 0, _, _ => none
  | f + 1, p, acc =>
    if p < s.size then
      if rAt s p = 92 then
        if p + kAt s p < s.size ∧ eolR (rAt s (p + kAt s p)) = true then
          match skipF s f (p + kAt s p + kAt s (p + kAt s p)) with
          | none => none
          | some q => valF s f q acc
        else match scanE s (p + kAt s p) with
        | none => some (.error (badEsc s (p + kAt s p)))
        | some x => valF s f x.2 (acc ++ [x.1])
      else if eolR (rAt s p) then some (.ok (acc, p + kAt s p, false))
      else valF s f (p + kAt s p) (acc ++ [rAt s p])
    else some (.ok (acc, p, true))
theorem valF_eq (s : ByteArray) : ∀ (f p : Nat) (acc : List Nat) (r : Except ByteArray (List Nat × Nat × Bool)), valF s f p acc = some r → valL s p acc = r := by
  intro f
  induction f with
  | zero => intro p acc r h; cases h
  | succ f ih =>
    intro p acc r h
    unfold valF at h
    unfold valL
    by_cases hp : p < s.size
    · rw [if_pos hp] at h
      rw [dif_pos hp]
      by_cases h92 : rAt s p = 92
      · rw [if_pos h92] at h ⊢
        by_cases h2 : p + kAt s p < s.size ∧ eolR (rAt s (p + kAt s p)) = true
        · rw [if_pos h2] at h
          rw [dif_pos h2]
          cases hq : skipF s f (p + kAt s p + kAt s (p + kAt s p)) with
          | none => rw [hq] at h; cases h
          | some q =>
            rw [hq] at h
            rw [skipF_eq s _ _ _ hq]
            exact ih _ _ _ h
        · rw [if_neg h2] at h
          rw [dif_neg h2]
          cases hE : scanE s (p + kAt s p) with
          | none =>
            rw [hE] at h
            split
            · exact Option.some.inj h
            · rename_i x hx; cases hx
          | some y =>
            rw [hE] at h
            split
            · rename_i hx; cases hx
            · rename_i x hx
              injection hx with hx
              subst hx
              exact ih _ _ _ h
      · rw [if_neg h92] at h ⊢
        by_cases he : eolR (rAt s p) = true
        · rw [if_pos he] at h ⊢
          exact Option.some.inj h
        · rw [if_neg he] at h ⊢
          exact ih _ _ _ h
    · rw [if_neg hp] at h
      rw [dif_neg hp]
      exact Option.some.inj h
/-- the items from a key's place on: keys and values alone (no comment); the fuel is for all loops -/
def itF (s : ByteArray) : Nat → NX → Nat → Option (List LI)
  | 0, _, _ => none
  | f + 1, .before, p =>
    if p < s.size then
      if eolR (rAt s p) then itF s f .before (p + kAt s p)
      else if rAt s p = 35 ∨ rAt s p = 33 then none
      else if wsR (rAt s p) then itF s f .before (p + kAt s p)
      else itF s f .key p
    else some [⟨1, p, emptyB⟩]
  | f + 1, .comment, p => none
  | f + 1, .key, p =>
    match keyF s f p [] with
    | none => none
    | some (.error e) => some [⟨0, p, e⟩]
    | some (.ok (acc, q, b)) =>
      if b then some ((if acc = [] then [] else [⟨2, p, textOf acc⟩]) ++ [⟨1, q, emptyB⟩])
      else (itF s f .bval q).map ((if acc = [] then [] else [⟨2, p, textOf acc⟩]) ++ ·)
  | f + 1, .bval, p =>
    match skipF s f p with
    | none => none
    | some q => match skipF s f (accS s q) with
      | none => none
      | some q2 => itF s f .val q2
  | f + 1, .val, p =>
    match valF s f p [] with
    | none => none
    | some (.error e) => some [⟨0, p, e⟩]
    | some (.ok (acc, q, b)) =>
      if b then some [⟨3, p, textOf acc⟩, ⟨1, q, emptyB⟩]
      else (itF s f .before q).map (⟨3, p, textOf acc⟩ :: ·)
/-- more fuel, the same items -/
theorem lexN_eq (s : ByteArray) : ∀ (f : Nat) (nx : NX) (p : Nat) (l : List LI), itF s f nx p = some l → ∀ (m : Nat), p ≤ s.size → muN s nx p < m → lexN s m nx p = l := by
  intro f
  induction f with
  | zero => intro nx p l h; cases h
  | succ f ih =>
    intro nx p l h m hp hm
    obtain ⟨m, rfl⟩ : ∃ m', m = m' + 1 := ⟨m - 1, by omega⟩
    have hmu := lexS_mu s nx p hp
    unfold lexN
    cases nx with
    | before =>
      unfold itF at h
      unfold lexS at hmu ⊢
      dsimp only at hmu ⊢
      by_cases hlt : p < s.size
      · rw [if_pos hlt] at h
        simp only [if_pos hlt] at hmu ⊢
        by_cases h1 : eolR (rAt s p) = true
        · rw [if_pos h1] at h
          simp only [if_pos h1] at hmu ⊢
          have := hmu _ rfl
          dsimp only at this
          exact ih _ _ _ h m this.2.1 (by omega)
        · rw [if_neg h1] at h
          simp only [if_neg h1] at hmu ⊢
          by_cases h2 : rAt s p = 35 ∨ rAt s p = 33
          · rw [if_pos h2] at h; cases h
          · rw [if_neg h2] at h
            simp only [if_neg h2] at hmu ⊢
            by_cases h3 : wsR (rAt s p) = true
            · rw [if_pos h3] at h
              simp only [if_pos h3] at hmu ⊢
              have := hmu _ rfl
              dsimp only at this
              exact ih _ _ _ h m this.2.1 (by omega)
            · rw [if_neg h3] at h
              simp only [if_neg h3] at hmu ⊢
              have := hmu _ rfl
              dsimp only at this
              exact ih _ _ _ h m this.2.1 (by omega)
      · rw [if_neg hlt] at h
        simp only [if_neg hlt]
        injection h with h
    | comment => unfold itF at h; cases h
    | key =>
      unfold itF at h
      unfold lexS at hmu ⊢
      dsimp only at hmu ⊢
      cases hk : keyF s f p [] with
      | none => rw [hk] at h; cases h
      | some r =>
        rw [hk] at h
        rw [keyF_eq s f p [] r hk] at hmu ⊢
        cases r with
        | error e => injection h with h
        | ok r =>
          obtain ⟨acc, q, b⟩ := r
          dsimp only at h hmu ⊢
          cases b with
          | true =>
            simp only [if_true] at h ⊢
            injection h with h
            rw [List.append_nil]
            exact h
          | false =>
            simp only [Bool.false_eq_true, if_false] at h hmu ⊢
            obtain ⟨l2, hl2, rfl⟩ := Option.map_eq_some_iff.1 h
            have := hmu _ rfl
            dsimp only at this
            rw [ih _ _ _ hl2 m this.2.1 (by omega), List.append_nil]
    | bval =>
      unfold itF at h
      unfold lexS at hmu ⊢
      dsimp only at hmu ⊢
      cases hq : skipF s f p with
      | none => rw [hq] at h; cases h
      | some q =>
        rw [hq] at h
        dsimp only at h
        cases hq2 : skipF s f (accS s q) with
        | none => rw [hq2] at h; cases h
        | some q2 =>
          rw [hq2] at h
          have e : bvalP s p = q2 := by unfold bvalP; rw [skipF_eq s _ _ _ hq, skipF_eq s _ _ _ hq2]
          rw [e] at hmu ⊢
          have := hmu _ rfl
          dsimp only at this
          exact ih _ _ _ h m this.2.1 (by omega)
    | val =>
      unfold itF at h
      unfold lexS at hmu ⊢
      dsimp only at hmu ⊢
      cases hk : valF s f p [] with
      | none => rw [hk] at h; cases h
      | some r =>
        rw [hk] at h
        rw [valF_eq s f p [] r hk] at hmu ⊢
        cases r with
        | error e => injection h with h
        | ok r =>
          obtain ⟨acc, q, b⟩ := r
          dsimp only at h hmu ⊢
          cases b with
          | true =>
            simp only [if_true] at h ⊢
            injection h with h
          | false =>
            simp only [Bool.false_eq_true, if_false] at h hmu ⊢
            obtain ⟨l2, hl2, rfl⟩ := Option.map_eq_some_iff.1 h
            have := hmu _ rfl
            dsimp only at this
            rw [ih _ _ _ hl2 m this.2.1 (by omega)]
            rfl
theorem lexL_eq (s : ByteArray) (f : Nat) (l : List LI) (h : itF s f .before 0 = some l) : lexL s = l :=
  lexN_eq s f .before 0 l h _ (Nat.zero_le _) (by show 4 * (s.size - 0) + 3 < _; omega)
/-- 'a=b' -/
theorem lexL_ab : lexL ⟨#[97, 61, 98]⟩ = [⟨2, 0, ⟨#[97]⟩⟩, ⟨3, 2, ⟨#[98]⟩⟩, ⟨1, 3, ⟨#[]⟩⟩] := lexL_eq _ 20 _ (by rfl)
end Go.Proofs.YtackciefmdiphaaGreatDoor
