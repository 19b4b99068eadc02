/- The properties' lexer as a plain function of the text: its states, the items that each gives. -/
import Derived.Test.YtgmhigjhooihdaaGreatDoorDec
import Derived.Test.YtgmhigjhooihdaaGreatDoorTextOf
set_option linter.unusedVariables false
namespace Go.Proofs.YtgmhigjhooihdaaGreatDoor
open Go.RowKit Plain

/-- the rune and the width at a place -/
def rAt (s : ByteArray) (p : Nat) : Nat := (Utf8.decode s p).1
def kAt (s : ByteArray) (p : Nat) : Nat := (Utf8.decode s p).2
theorem kAt_pos (s : ByteArray) (p : Nat) (h : p < s.size) : 1 ≤ kAt s p ∧ p + kAt s p ≤ s.size := by
  refine ⟨Lib.decode_width_pos s p h, ?_⟩
  have hne : s.data.toList.drop p ≠ [] := by
    intro e
    have := congrArg List.length e
    rw [List.length_drop, ← Lib.size_eq] at this
    simp at this
    omega
  have h1 := Lib.decodeL_le _ hne
  rw [Lib.decodeL_drop, List.length_drop, ← Lib.size_eq] at h1
  unfold kAt
  omega
def wsR (R : Nat) : Bool := R == 32 || R == 12 || R == 9
def eolR (R : Nat) : Bool := R == 10 || R == 13
def endK (R : Nat) : Bool := R == 32 || R == 12 || R == 9 || R == 13 || R == 10 || R == 58 || R == 61
def escC (R : Nat) : Bool := R == 32 || R == 58 || R == 61 || R == 102 || R == 110 || R == 114 || R == 116
def decEsc (R : Nat) : Nat := if R = 102 then 12 else if R = 110 then 10 else if R = 114 then 13 else if R = 116 then 9 else R
def hexR (R : Nat) : Option Nat := if 48 ≤ R ∧ R ≤ 57 then some (R - 48) else if 97 ≤ R ∧ R ≤ 102 then some (R - 87) else if 65 ≤ R ∧ R ≤ 70 then some (R - 55) else none
/-- behind the blanks -/
def skipW (s : ByteArray) (p : Nat) : Nat :=
  if h : p < s.size then
    if wsR (rAt s p) then skipW s (p + kAt s p) else p
  else p
termination_by s.size - p
decreasing_by have := kAt_pos s p h; omega
theorem skipW_ge (s : ByteArray) (p : Nat) : p ≤ skipW s p := by
  fun_induction skipW s p <;> omega
theorem skipW_le (s : ByteArray) (p : Nat) (h : p ≤ s.size) : skipW s p ≤ s.size := by
  fun_induction skipW s p with
  | case1 p h1 h2 ih => exact ih (kAt_pos s p h1).2
  | case2 p h1 h2 => omega
  | case3 p h1 => omega
/-- n hexadecimal digits -/
def hexs (s : ByteArray) : Nat → Nat → Nat → Option (Nat × Nat)
  | 0, p, acc => some (acc, p)
  | n + 1, p, acc => if p < s.size then (match hexR (rAt s p) with
      | some v => hexs s n (p + kAt s p) (16 * acc + v)
      | none => none) else none
/-- what stands behind a backslash: a rune and the place behind it; none: an error -/
def scanE (s : ByteArray) (p : Nat) : Option (Nat × Nat) :=
  if p < s.size then
    if escC (rAt s p) then some (decEsc (rAt s p), p + kAt s p)
    else if rAt s p = 117 then hexs s 4 (p + kAt s p) 0
    else some (rAt s p, p + kAt s p)
  else none
def badEsc (s : ByteArray) (p : Nat) : ByteArray := if p < s.size then ⟨#[105, 110, 118, 97, 108, 105, 100, 32, 117, 110, 105, 99, 111, 100, 101, 32, 108, 105, 116, 101, 114, 97, 108]⟩ else ⟨#[112, 114, 101, 109, 97, 116, 117, 114, 101, 32, 69, 79, 70]⟩
theorem hexs_ge (s : ByteArray) : ∀ (n p acc : Nat) (x : Nat × Nat), hexs s n p acc = some x → p ≤ x.2 ∧ (p ≤ s.size → x.2 ≤ s.size) := by
  intro n
  induction n with
  | zero => intro p acc x h; simp only [hexs, Option.some.injEq] at h; subst h; exact ⟨Nat.le_refl _, id⟩
  | succ n ih =>
    intro p acc x h
    unfold hexs at h
    split at h
    · rename_i hp
      have hk := kAt_pos s p hp
      split at h
      · have := ih _ _ _ h
        exact ⟨by omega, fun _ => this.2 hk.2⟩
      · cases h
    · cases h
theorem scanE_gt (s : ByteArray) (p : Nat) (x : Nat × Nat) (h : scanE s p = some x) : p < x.2 ∧ x.2 ≤ s.size := by
  unfold scanE at h
  split at h
  · rename_i hp
    have hk := kAt_pos s p hp
    split at h
    · injection h with h; subst h; exact ⟨by show p < p + kAt s p; omega, hk.2⟩
    · split at h
      · have := hexs_ge s _ _ _ _ h
        exact ⟨by omega, this.2 hk.2⟩
      · injection h with h; subst h; exact ⟨by show p < p + kAt s p; omega, hk.2⟩
  · cases h
/-- a key: its runes, the place behind it, whether the text ends there; none: an error -/
def keyL (s : ByteArray) (p : Nat) (acc : List Nat) : Except ByteArray (List Nat × Nat × Bool) :=
  if h : p < s.size then
    if rAt s p = 92 then
      match hE : scanE s (p + kAt s p) with
      | none => .error (badEsc s (p + kAt s p))
      | some x => keyL s x.2 (acc ++ [x.1])
    else if endK (rAt s p) then .ok (acc, p, false)
    else keyL s (p + kAt s p) (acc ++ [rAt s p])
  else .ok (acc, p, true)
termination_by s.size - p
decreasing_by
  · have := kAt_pos s p h; have := scanE_gt s _ _ hE; omega
  · have := kAt_pos s p h; omega
def valL (s : ByteArray) (p : Nat) (acc : List Nat) : Except ByteArray (List Nat × Nat × Bool) :=
  if h : p < s.size then
    if rAt s p = 92 then
      if h2 : p + kAt s p < s.size ∧ eolR (rAt s (p + kAt s p)) = true then valL s (skipW s (p + kAt s p + kAt s (p + kAt s p))) acc
      else match hE : scanE s (p + kAt s p) with
      | none => .error (badEsc s (p + kAt s p))
      | some x => valL s x.2 (acc ++ [x.1])
    else if eolR (rAt s p) then .ok (acc, p + kAt s p, false)
    else valL s (p + kAt s p) (acc ++ [rAt s p])
  else .ok (acc, p, true)
termination_by s.size - p
decreasing_by
  · have := kAt_pos s p h; have := kAt_pos s _ h2.1; have := skipW_ge s (p + kAt s p + kAt s (p + kAt s p)); omega
  · have := kAt_pos s p h; have := scanE_gt s _ _ hE; omega
  · have := kAt_pos s p h; omega
def comL (s : ByteArray) (p : Nat) (acc : List Nat) : List Nat × Nat × Bool :=
  if h : p < s.size then
    if eolR (rAt s p) then (acc, p + kAt s p, false) else comL s (p + kAt s p) (acc ++ [rAt s p])
  else (acc, p, true)
termination_by s.size - p
decreasing_by have := kAt_pos s p h; omega
/-- the lexer's states -/
inductive NX where
  | before | comment | key | bval | val
  deriving DecidableEq
/-- an item: its kind, its place, its text -/
structure LI where
  kind : Nat
  pos : Nat
  text : ByteArray
/-- behind one of ':', '=' -/
def accS (s : ByteArray) (p : Nat) : Nat := if p < s.size then (if rAt s p = 58 ∨ rAt s p = 61 then p + kAt s p else p) else p
def bvalP (s : ByteArray) (p : Nat) : Nat := skipW s (accS s (skipW s p))
def emptyB : ByteArray := ⟨#[]⟩
/-- one state: the items that it gives, and what is next -/
def lexS (s : ByteArray) (nx : NX) (p : Nat) : List LI × Option (NX × Nat) :=
  match nx with
  | .before =>
    if p < s.size then
      if eolR (rAt s p) then ([], some (.before, p + kAt s p))
      else if rAt s p = 35 ∨ rAt s p = 33 then ([], some (.comment, p + kAt s p))
      else if wsR (rAt s p) then ([], some (.before, p + kAt s p))
      else ([], some (.key, p))
    else ([⟨1, p, emptyB⟩], none)
  | .comment =>
    match comL s (skipW s p) [] with
    | (acc, q, false) => ([⟨4, skipW s p, textOf acc⟩], some (.before, q))
    | (acc, q, true) => ([⟨1, q, textOf acc⟩], none)
  | .key =>
    match keyL s p [] with
    | .error e => ([⟨0, p, e⟩], none)
    | .ok (acc, q, b) =>
      ((if acc = [] then [] else [⟨2, p, textOf acc⟩]) ++ (if b then [⟨1, q, emptyB⟩] else []), if b then none else some (.bval, q))
  | .bval => ([], some (.val, bvalP s p))
  | .val =>
    match valL s p [] with
    | .error e => ([⟨0, p, e⟩], none)
    | .ok (acc, q, b) => ([⟨3, p, textOf acc⟩] ++ (if b then [⟨1, q, emptyB⟩] else []), if b then none else some (.before, q))
def phN : NX → Nat
  | .before => 3 | .key => 2 | .bval => 1 | .val => 0 | .comment => 0
def muN (s : ByteArray) (nx : NX) (p : Nat) : Nat := 4 * (s.size - p) + phN nx
def lexN (s : ByteArray) : Nat → NX → Nat → List LI
  | 0, _, _ => []
  | f + 1, nx, p => (lexS s nx p).1 ++ (match (lexS s nx p).2 with
    | none => []
    | some x => lexN s f x.1 x.2)
/-- the items of a text -/
def lexL (s : ByteArray) : List LI := lexN s (4 * s.size + 4) .before 0
theorem keyL_bd (s : ByteArray) (p : Nat) (acc : List Nat) (hp : p ≤ s.size) : ∀ x, keyL s p acc = .ok x → p ≤ x.2.1 ∧ x.2.1 ≤ s.size := by
  fun_induction keyL s p acc with
  | case1 p acc h h1 hE => intro x hx; cases hx
  | case2 p acc h h1 y hE ih =>
    intro x hx
    have := scanE_gt s _ _ hE
    have := ih this.2 x hx
    have := kAt_pos s p h
    omega
  | case3 p acc h h1 h2 => intro x hx; injection hx with hx; subst hx; exact ⟨Nat.le_refl _, hp⟩
  | case4 p acc h h1 h2 ih =>
    intro x hx
    have hk := kAt_pos s p h
    have := ih hk.2 x hx
    omega
  | case5 p acc h => intro x hx; injection hx with hx; subst hx; exact ⟨Nat.le_refl _, hp⟩
theorem valL_bd (s : ByteArray) (p : Nat) (acc : List Nat) (hp : p ≤ s.size) : ∀ x, valL s p acc = .ok x → p ≤ x.2.1 ∧ x.2.1 ≤ s.size ∧ (x.2.2 = false → p < x.2.1) := by
  fun_induction valL s p acc with
  | case1 p acc h h1 h2 ih =>
    intro x hx
    have hk := kAt_pos s p h
    have hk2 := kAt_pos s _ h2.1
    have hw := skipW_ge s (p + kAt s p + kAt s (p + kAt s p))
    have := ih (skipW_le s _ hk2.2) x hx
    omega
  | case2 p acc h h1 h2 hE => intro x hx; cases hx
  | case3 p acc h h1 h2 y hE ih =>
    intro x hx
    have := scanE_gt s _ _ hE
    have := ih this.2 x hx
    have := kAt_pos s p h
    omega
  | case4 p acc h h1 h2 => intro x hx; injection hx with hx; subst hx; have := kAt_pos s p h; exact ⟨by show p ≤ p + kAt s p; omega, by exact this.2, fun _ => by show p < p + kAt s p; omega⟩
  | case5 p acc h h1 h2 ih =>
    intro x hx
    have hk := kAt_pos s p h
    have := ih hk.2 x hx
    omega
  | case6 p acc h => intro x hx; injection hx with hx; subst hx; exact ⟨Nat.le_refl _, hp, fun h => by cases h⟩
theorem comL_bd (s : ByteArray) (p : Nat) (acc : List Nat) (hp : p ≤ s.size) : p ≤ (comL s p acc).2.1 ∧ (comL s p acc).2.1 ≤ s.size ∧ ((comL s p acc).2.2 = false → p < (comL s p acc).2.1) := by
  fun_induction comL s p acc with
  | case1 p acc h h1 => have := kAt_pos s p h; exact ⟨by show p ≤ p + kAt s p; omega, this.2, fun _ => by show p < p + kAt s p; omega⟩
  | case2 p acc h h1 ih =>
    have hk := kAt_pos s p h
    have := ih hk.2
    omega
  | case3 p acc h => exact ⟨Nat.le_refl _, hp, fun h => by cases h⟩
theorem accS_bd (s : ByteArray) (p : Nat) (hp : p ≤ s.size) : p ≤ accS s p ∧ accS s p ≤ s.size := by
  unfold accS
  split
  · rename_i h
    have := kAt_pos s p h
    split <;> omega
  · omega
theorem bvalP_bd (s : ByteArray) (p : Nat) (hp : p ≤ s.size) : p ≤ bvalP s p ∧ bvalP s p ≤ s.size := by
  unfold bvalP
  have h1 := skipW_ge s p
  have h2 := skipW_le s p hp
  have h3 := accS_bd s _ h2
  have h4 := skipW_ge s (accS s (skipW s p))
  have h5 := skipW_le s _ h3.2
  omega
theorem lexS_mu (s : ByteArray) (nx : NX) (p : Nat) (hp : p ≤ s.size) (x : NX × Nat) (hx : (lexS s nx p).2 = some x) : p ≤ x.2 ∧ x.2 ≤ s.size ∧ muN s x.1 x.2 < muN s nx p := by
  unfold lexS at hx
  unfold muN
  cases nx with
  | before =>
    dsimp only at hx
    split at hx
    · rename_i h
      have hk := kAt_pos s p h
      repeat' split at hx
      all_goals (injection hx with hx; subst hx; simp only [phN]; omega)
    · cases hx
  | comment =>
    dsimp only at hx
    have h1 := skipW_ge s p
    have h2 := skipW_le s p hp
    have h3 := comL_bd s (skipW s p) [] h2
    split at hx
    · rename_i acc q hc
      rw [hc] at h3
      have := h3.2.2 rfl
      injection hx with hx; subst hx; simp only [phN] at *; omega
    · cases hx
  | key =>
    dsimp only at hx
    split at hx
    · cases hx
    · rename_i acc q b hk
      have h3 := keyL_bd s p [] hp _ hk
      cases b with
      | true => simp at hx
      | false => simp at hx; subst hx; simp only [phN] at *; omega
  | bval =>
    dsimp only at hx
    have := bvalP_bd s p hp
    injection hx with hx; subst hx; simp only [phN]; omega
  | val =>
    dsimp only at hx
    split at hx
    · cases hx
    · rename_i acc q b hk
      have h3 := valL_bd s p [] hp _ hk
      cases b with
      | true => simp at hx
      | false =>
        have := h3.2.2 rfl
        simp at hx; subst hx; simp only [phN] at *; omega
end Go.Proofs.YtgmhigjhooihdaaGreatDoor
