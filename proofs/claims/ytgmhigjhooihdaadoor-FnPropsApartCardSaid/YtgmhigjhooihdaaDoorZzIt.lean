/- ZzItems: the lexer's items as a row of one's own. -/
import Derived.Test.YtgmhigjhooihdaaDoorLexMem
import Derived.Lib.TrimAscii
import Derived.Lib.AtoiErrMem
import Derived.Laws.CopyOwn
import Derived.OwnWalk
import Derived.Maps.RangeWalk
import Derived.Maps.Ext
import Derived.LoopTactic
import Derived.Laws.AppendOwnNone
import Derived.Deep.RegionHeld3
import Derived.Deep.AppendLies
import Derived.Deep.DrawnRows
import Derived.Test.YtgmhigjhooihdaaDoorDec
import Derived.Shelf.Bytes.SlSmallAll
import Derived.Deep.RegionLaw
import Derived.ScopeJumps
import Derived.WalkMore
import Derived.StillTailTactics
import Derived.Laws.BytesArg
import Derived.Lib.ConvBytes
set_option linter.unusedVariables false
namespace Go.Proofs.YtgmhigjhooihdaaDoor
open Go.RowKit Plain Go.Maps

end Go.Proofs.YtgmhigjhooihdaaDoor


set_option linter.unusedVariables false
namespace Go.Proofs.YtgmhigjhooihdaaDoor
open Go.RowKit Plain Go.Maps

theorem row_slq {w : World} {B n sz : Nat} {e : TypeId} {v : Value} {xs : List Value} (h : w.ownsRow B e sz v n xs) (hn : 0 < n) : ∃ G cap, v = .slice (some ⟨G, 0, none⟩) n cap := by
  rcases h.2 with ⟨_, h0⟩ | ⟨g, cap, cur, hv, _⟩
  · omega
  · exact ⟨g, cap, hv⟩
/-- an item as the door tells it -/
def outX (x : LI) : LI := if x.kind = 0 then ⟨0, x.pos, emptyB⟩ else x
def outI (l : List LI) : List LI := l.map outX
end Go.Proofs.YtgmhigjhooihdaaDoor


set_option linter.unusedVariables false
namespace Go.Proofs.YtgmhigjhooihdaaDoor
open Go.RowKit Plain Go.Maps

theorem infoPr : (Tryd.prog.info? 28).map (fun i => (i.zero, i.size, i.bytes)) = some (some (.agg #[.string ⟨#[]⟩, .string ⟨#[]⟩, .string ⟨#[]⟩, .slice none 0 0]), 4, 72) := by kernel_rfl
def propC (p : ByteArray × ByteArray) : List Value := [.string p.1, .string p.2, .string ⟨#[]⟩, .slice none 0 0]
def propsC (l : List (ByteArray × ByteArray)) : List Value := (l.map propC).flatten
/-- the text of an item that is a value and stands first -/
def valN : List LI → ByteArray
  | [] => ⟨#[]⟩
  | y :: _ => if y.kind = 3 then y.text else ⟨#[]⟩
/-- none: an error is among the items -/
def ipL : List LI → Option (List (ByteArray × ByteArray))
  | [] => some []
  | x :: r => if x.kind = 0 then none else if x.kind = 2 then (ipL r).map ((x.text, valN r) :: ·) else ipL r
theorem cell_four_new (w : World) (a b c d : Value) (t : TypeId) : ∀ j u, ([a, b, c, d] : List Value)[j]? = some u → (w.alloc (.cells #[a, b, c, d] t)).cell? ((⟨w.heap.size, 0, none⟩ : Addr).add j) = some u := by
  intro j u hu
  rw [add_at, Nat.zero_add, World.cell?_alloc_new]
  simpa using hu
def IpPost (o : Option (List (ByteArray × ByteArray))) (w : World) (e : Ending) (w' : World) : Prop :=
  Below w.heap.size w w' ∧ match o with
  | none => e = .returned (.tuple #[.slice none 0 0, .bool false])
  | some l => ∃ v, e = .returned (.tuple #[v, .bool true]) ∧ w'.ownsRow w.heap.size 28 4 v l.length (propsC l)
theorem ipL_len : ∀ (l : List LI) (ps : List (ByteArray × ByteArray)), ipL l = some ps → ps.length ≤ l.length := by
  intro l
  induction l with
  | nil => intro ps h; injection h with h; subst h; exact Nat.le_refl _
  | cons x r ih =>
    intro ps h
    unfold ipL at h
    split at h
    · cases h
    · split at h
      · obtain ⟨q, hq, rfl⟩ := Option.map_eq_some_iff.1 h
        have := ih q hq
        simp
        omega
      · have := ih ps h
        simp
        omega
end Go.Proofs.YtgmhigjhooihdaaDoor


set_option linter.unusedVariables false
namespace Go.Proofs.YtgmhigjhooihdaaDoor
open Go.RowKit Plain Go.Maps

/-- places rise from 'lo', and are at most 'hi' -/
def Rise (hi : Nat) : Nat → List LI → Prop
  | _, [] => True
  | lo, x :: r => lo ≤ x.pos ∧ x.pos ≤ hi ∧ Rise hi x.pos r
theorem rise_mono {hi lo lo' : Nat} {l : List LI} (h : Rise hi lo l) (hl : lo' ≤ lo) : Rise hi lo' l := by
  cases l with
  | nil => trivial
  | cons x r => exact ⟨Nat.le_trans hl h.1, h.2⟩
theorem lexS_shape (s : ByteArray) (nx : NX) (p : Nat) (hp : p ≤ s.size) :
    (∃ x, lexS s nx p = ([], some x)) ∨ (∃ a x, lexS s nx p = ([a], some x) ∧ p ≤ a.pos ∧ a.pos ≤ x.2) ∨ (∃ a, lexS s nx p = ([a], none) ∧ p ≤ a.pos ∧ a.pos ≤ s.size) ∨ (∃ a b, lexS s nx p = ([a, b], none) ∧ p ≤ a.pos ∧ a.pos ≤ b.pos ∧ b.pos ≤ s.size) := by
  cases nx with
  | before =>
    by_cases h : p < s.size
    · left
      unfold lexS
      dsimp only
      rw [if_pos h]
      repeat' split
      all_goals exact ⟨_, rfl⟩
    · right; right; left
      exact ⟨⟨1, p, emptyB⟩, by unfold lexS; dsimp only; rw [if_neg h], Nat.le_refl _, hp⟩
  | comment =>
    have h1 := skipW_ge s p
    have h2 := skipW_le s p hp
    have h3 := comL_bd s (skipW s p) [] h2
    rcases hc : comL s (skipW s p) [] with ⟨acc, q, b⟩
    rw [hc] at h3
    cases b
    · right; left
      exact ⟨⟨4, skipW s p, textOf acc⟩, (.before, q), by unfold lexS; dsimp only; rw [hc], h1, h3.1⟩
    · right; right; left
      exact ⟨⟨1, q, textOf acc⟩, by unfold lexS; dsimp only; rw [hc], Nat.le_trans h1 h3.1, h3.2.1⟩
  | key =>
    rcases hk : keyL s p [] with e | ⟨acc, q, b⟩
    · right; right; left
      exact ⟨⟨0, p, e⟩, by unfold lexS; dsimp only; rw [hk], Nat.le_refl _, hp⟩
    · have h3 := keyL_bd s p [] hp _ hk
      by_cases ha : acc = [] <;> cases b
      · left
        exact ⟨(.bval, q), by unfold lexS; dsimp only; rw [hk]; simp [ha]⟩
      · right; right; left
        exact ⟨⟨1, q, emptyB⟩, by unfold lexS; dsimp only; rw [hk]; simp [ha], h3.1, h3.2⟩
      · right; left
        exact ⟨⟨2, p, textOf acc⟩, (.bval, q), by unfold lexS; dsimp only; rw [hk]; simp [ha], Nat.le_refl _, h3.1⟩
      · right; right; right
        exact ⟨⟨2, p, textOf acc⟩, ⟨1, q, emptyB⟩, by unfold lexS; dsimp only; rw [hk]; simp [ha], Nat.le_refl _, h3.1, h3.2⟩
  | bval => left; exact ⟨(.val, bvalP s p), rfl⟩
  | val =>
    rcases hk : valL s p [] with e | ⟨acc, q, b⟩
    · right; right; left
      exact ⟨⟨0, p, e⟩, by unfold lexS; dsimp only; rw [hk], Nat.le_refl _, hp⟩
    · have h3 := valL_bd s p [] hp _ hk
      cases b
      · right; left
        exact ⟨⟨3, p, textOf acc⟩, (.before, q), by unfold lexS; dsimp only; rw [hk]; simp, Nat.le_refl _, h3.1⟩
      · right; right; right
        exact ⟨⟨3, p, textOf acc⟩, ⟨1, q, emptyB⟩, by unfold lexS; dsimp only; rw [hk]; simp, Nat.le_refl _, h3.1, h3.2.1⟩
theorem rise_lexN (s : ByteArray) : ∀ (f : Nat) (nx : NX) (p : Nat), p ≤ s.size → Rise s.size p (lexN s f nx p) := by
  intro f
  induction f with
  | zero => intro nx p hp; trivial
  | succ f ih =>
    intro nx p hp
    unfold lexN
    have hm := fun x hx => lexS_mu s nx p hp x hx
    rcases lexS_shape s nx p hp with ⟨x, hx⟩ | ⟨a, x, hx, h1, h2⟩ | ⟨a, hx, h1, h2⟩ | ⟨a, b, hx, h1, h2, h3⟩
    · rw [hx] at hm ⊢
      have hq := hm x rfl
      exact rise_mono (ih x.1 x.2 hq.2.1) hq.1
    · rw [hx] at hm ⊢
      have hq := hm x rfl
      exact ⟨h1, Nat.le_trans h2 hq.2.1, rise_mono (ih x.1 x.2 hq.2.1) h2⟩
    · rw [hx]
      exact ⟨h1, h2, trivial⟩
    · rw [hx]
      exact ⟨h1, Nat.le_trans h2 h3, h2, h3, trivial⟩
theorem rise_out {hi : Nat} : ∀ {l : List LI} {lo : Nat}, Rise hi lo l → Rise hi lo (outI l) := by
  intro l
  induction l with
  | nil => intro lo h; trivial
  | cons x r ih =>
    intro lo h
    have hp : (outX x).pos = x.pos := by unfold outX; split <;> rfl
    show lo ≤ (outX x).pos ∧ (outX x).pos ≤ hi ∧ Rise hi (outX x).pos (outI r)
    rw [hp]
    exact ⟨h.1, h.2.1, ih h.2.2⟩
theorem rise_at {hi : Nat} : ∀ {l : List LI} {lo : Nat}, Rise hi lo l → ∀ (i : Nat) (x : LI), l[i]? = some x → x.pos ≤ hi ∧ ∀ (j : Nat) (y : LI), i = j + 1 → l[j]? = some y → y.pos ≤ x.pos := by
  intro l
  induction l with
  | nil => intro lo h i x hx; simp at hx
  | cons z r ih =>
    intro lo h i x hx
    match i, hx with
    | 0, hx =>
      simp at hx
      subst hx
      exact ⟨h.2.1, fun j y e _ => by omega⟩
    | i + 1, hx =>
      have hx' : r[i]? = some x := by simpa using hx
      have h9 := ih h.2.2 i x hx'
      refine ⟨h9.1, fun j y e hy => ?_⟩
      obtain rfl : i = j := by omega
      match i, hy with
      | 0, hy =>
        simp at hy
        subst hy
        cases r with
        | nil => simp at hx'
        | cons u r =>
          simp at hx'
          subst hx'
          exact h.2.2.1
      | i + 1, hy =>
        have hy' : r[i]? = some y := by simpa using hy
        exact h9.2 i y rfl hy'
/-- the end or an error stands last, and there alone -/
theorem wfI_at : ∀ {l : List LI}, WfI l → ∀ (i : Nat) (x : LI), l[i]? = some x → x.kind ≤ 4 ∧ (x.kind < 2 ↔ i + 1 = l.length) := by
  intro l
  induction l with
  | nil => intro h i x hx; simp at hx
  | cons z r ih =>
    intro h i x hx
    cases r with
    | nil =>
      have h0 : z.kind < 2 := h
      match i, hx with
      | 0, hx => simp at hx; subst hx; exact ⟨by omega, by simp; exact h0⟩
      | i + 1, hx => simp at hx
    | cons y r =>
      obtain ⟨h1, h2, h3⟩ : 2 ≤ z.kind ∧ z.kind ≤ 4 ∧ WfI (y :: r) := h
      match i, hx with
      | 0, hx => simp at hx; subst hx; exact ⟨h2, by simp; omega⟩
      | i + 1, hx =>
        have hx' : (y :: r)[i]? = some x := by simpa using hx
        have h9 := ih h3 i x hx'
        refine ⟨h9.1, h9.2.trans ?_⟩
        simp
/-- the value at a key -/
def rawOf (D : DataW Unit) (k : ByteArray) : ByteArray := match D.atKey (keyL8 k) (.lit (.string [])) with | .lit (.string l) => ⟨l.toArray⟩ | _ => ⟨#[]⟩
theorem rawOf_of {D : DataW Unit} {k v : ByteArray} (h : D.atKey (keyL8 k) (.lit (.string [])) = .lit (.string v.data.toList)) : rawOf D k = v := by
  unfold rawOf
  rw [h]
def rawO (D : DataW Unit) (k : ByteArray) : Option ByteArray := if Maps.has D (keyL8 k) = true then some (rawOf D k) else none
theorem keyL8_key (k : ByteArray) : WideAt.IsKeyLit (keyL8 k) := by unfold keyL8; trivial
theorem rawO_put {D : DataW Unit} (hD : IsMap D) (k v x : ByteArray) : rawO (D.put (keyL8 k) (.lit (.string v.data.toList))) x = if k = x then some v else rawO D x := by
  unfold rawO
  by_cases h : k = x
  · subst h
    rw [if_pos rfl, has_put_same (k := keyL8 k) hD (keyL8_key k), if_pos rfl, rawOf_of (atKey_put_same (k := keyL8 k) hD (keyL8_key k) _ _)]
  · have hne : keyL8 x ≠ keyL8 k := fun e => h (by
      unfold keyL8 at e
      injection e with e
      exact (ByteArray.ext (Array.toList_inj.1 e)).symm)
    rw [if_neg h, has_put_other hne]
    unfold rawOf
    rw [atKey_put_other hne]
theorem has_rawO {D : DataW Unit} {k : ByteArray} (h : Maps.has D (keyL8 k) = true) : rawO D k = some (rawOf D k) := by unfold rawO; rw [if_pos h]
/-- the last value of a key -/
def lastF : List (ByteArray × ByteArray) → ByteArray → Option ByteArray → Option ByteArray
  | [], _, a => a
  | q :: r, k, a => lastF r k (if q.1 = k then some q.2 else a)
theorem isMap_put {D : DataW Unit} (h : IsMap D) (k : Lit) (d : DataW Unit) : IsMap (D.put k d) := by
  obtain ⟨es, rfl⟩ := h
  exact ⟨_, rfl⟩
theorem has_isKey {D : DataW Unit} {k x : ByteArray} {d : DataW Unit} (hD : IsMap D) (h : Maps.has D (keyL8 x) = true ∨ x = k) : Maps.has (D.put (keyL8 k) d) (keyL8 x) = true := by
  by_cases e : x = k
  · subst e
    exact has_put_same (k := keyL8 x) hD (keyL8_key x) _
  · have hne : keyL8 x ≠ keyL8 k := fun e' => e (by
      unfold keyL8 at e'
      injection e' with e'
      exact ByteArray.ext (Array.toList_inj.1 e'))
    rw [has_put_other hne]
    rcases h with h | h
    · exact h
    · exact absurd h e
/-- one key and its value: what the parser's state is then -/
theorem addP_facts (p : PSt) (T V : ByteArray) (cm : List ByteArray) (hD : IsMap p.D) (hks : ∀ k ∈ p.ks, Maps.has p.D (keyL8 k) = true) :
    IsMap (putV (addC (addK p T) T cm) T V).D ∧ (∀ k ∈ (putV (addC (addK p T) T cm) T V).ks, Maps.has (putV (addC (addK p T) T cm) T V).D (keyL8 k) = true) ∧
    (∀ k, rawO (putV (addC (addK p T) T cm) T V).D k = if T = k then some V else rawO p.D k) ∧ (putV (addC (addK p T) T cm) T V).ks.length ≤ p.ks.length + 1 := by
  have e1 : (putV (addC (addK p T) T cm) T V).D = p.D.put (keyL8 T) (.lit (.string V.data.toList)) := by
    unfold putV addC addK
    split <;> split <;> rfl
  have e2 : (putV (addC (addK p T) T cm) T V).ks = if Maps.has p.D (keyL8 T) = true then p.ks else p.ks ++ [T] := by
    unfold putV addC addK
    split <;> split <;> rfl
  rw [e1, e2]
  refine ⟨isMap_put hD _ _, ?_, fun k => rawO_put hD T V k, ?_⟩
  · intro k hk
    refine has_isKey hD ?_
    split at hk
    · exact .inl (hks k hk)
    · rcases List.mem_append.1 hk with h | h
      · exact .inl (hks k h)
      · simp at h; exact .inr h
  · split <;> simp
theorem outI_cons (x : LI) (r : List LI) : outI (x :: r) = outX x :: outI r := rfl
theorem outX_ne {x : LI} (h : x.kind ≠ 0) : outX x = x := by unfold outX; rw [if_neg h]
theorem ipL_skip {x : LI} {r : List LI} (h0 : x.kind ≠ 0) (h2 : x.kind ≠ 2) : ipL (outI (x :: r)) = ipL (outI r) := by
  rw [outI_cons, outX_ne h0, ipL, if_neg h0, if_neg h2]
theorem ipL_key {x : LI} {r : List LI} (h2 : x.kind = 2) : ipL (outI (x :: r)) = (ipL (outI r)).map ((x.text, valN (outI r)) :: ·) := by
  rw [outI_cons, outX_ne (by omega), ipL, if_neg (by omega), if_pos h2]
theorem valN_out (y : LI) (r : List LI) : valN (outI (y :: r)) = if y.kind = 3 then y.text else ⟨#[]⟩ := by
  rw [outI_cons]
  show (if (outX y).kind = 3 then (outX y).text else ⟨#[]⟩) = _
  by_cases h : y.kind = 0
  · unfold outX; rw [if_pos h, if_neg (show ¬ (0 : Nat) = 3 by omega), if_neg (by omega)]
  · rw [outX_ne h]
theorem parL_err : ∀ (n : Nat) (l : List LI) (cm : List ByteArray) (p : PSt), l.length ≤ n → WfI l → ipL (outI l) = none → parL l cm p = none := by
  intro n
  induction n with
  | zero => intro l cm p hn hw _; cases l with
    | nil => exact hw.elim
    | cons x r => simp at hn
  | succ n ih =>
    intro l cm p hn hw h
    match l, hw, hn with
    | [x], hw, hn =>
      have hx : x.kind < 2 := hw
      by_cases h0 : x.kind = 0
      · unfold parL
        rw [if_neg (by omega), if_neg (by omega), if_neg (by omega)]
      · rw [ipL_skip h0 (by omega)] at h
        simp [outI, ipL] at h
    | x :: y :: r, hw, hn =>
      obtain ⟨h1, h2, h3⟩ : 2 ≤ x.kind ∧ x.kind ≤ 4 ∧ WfI (y :: r) := hw
      have hn' : (y :: r).length ≤ n := by simp at hn ⊢; omega
      unfold parL
      rw [if_neg (by omega)]
      by_cases h4 : x.kind = 4
      · rw [if_pos h4]
        rw [ipL_skip (by omega) (by omega)] at h
        exact ih _ _ _ hn' h3 h
      · rw [if_neg h4]
        by_cases hk : x.kind = 2
        · rw [if_pos hk]
          rw [ipL_key hk, Option.map_eq_none_iff] at h
          dsimp only
          by_cases hy1 : y.kind = 1
          · exfalso
            cases r with
            | nil =>
              rw [ipL_skip (by omega) (by omega)] at h
              simp [outI, ipL] at h
            | cons z r => have : 2 ≤ y.kind := h3.1; omega
          · rw [if_neg hy1]
            by_cases hy3 : y.kind = 3
            · rw [if_pos hy3]
              rw [ipL_skip (by omega) (by omega)] at h
              cases r with
              | nil => have : y.kind < 2 := h3; omega
              | cons z r => exact ih _ _ _ (by simp at hn' ⊢; omega) h3.2.2 h
            · rw [if_neg hy3]
        · rw [if_neg hk]
theorem parL_ip : ∀ (n : Nat) (l : List LI) (cm : List ByteArray) (p p' : PSt) (ps : List (ByteArray × ByteArray)), l.length ≤ n → WfI l → IsMap p.D → (∀ k ∈ p.ks, Maps.has p.D (keyL8 k) = true) → parL l cm p = some p' → ipL (outI l) = some ps →
    (∀ k ∈ p'.ks, Maps.has p'.D (keyL8 k) = true) ∧ (∀ k, rawO p'.D k = lastF ps k (rawO p.D k)) ∧ p'.ks.length ≤ p.ks.length + ps.length := by
  intro n
  induction n with
  | zero => intro l cm p p' ps hn hw; cases l with
    | nil => exact hw.elim
    | cons x r => simp at hn
  | succ n ih =>
    intro l cm p p' ps hn hw hD hks hp hi
    match l, hw, hn with
    | [x], hw, hn =>
      have hx : x.kind < 2 := hw
      unfold parL at hp
      by_cases h1 : x.kind = 1
      · rw [if_pos h1] at hp
        injection hp with hp
        subst hp
        rw [ipL_skip (by omega) (by omega)] at hi
        simp [outI, ipL] at hi
        subst hi
        exact ⟨hks, fun k => rfl, Nat.le_refl _⟩
      · rw [if_neg h1, if_neg (by omega), if_neg (by omega)] at hp
        cases hp
    | x :: y :: r, hw, hn =>
      obtain ⟨h1, h2, h3⟩ : 2 ≤ x.kind ∧ x.kind ≤ 4 ∧ WfI (y :: r) := hw
      have hn' : (y :: r).length ≤ n := by simp at hn ⊢; omega
      unfold parL at hp
      rw [if_neg (by omega)] at hp
      by_cases h4 : x.kind = 4
      · rw [if_pos h4] at hp
        rw [ipL_skip (by omega) (by omega)] at hi
        exact ih _ _ _ _ _ hn' h3 hD hks hp hi
      · rw [if_neg h4] at hp
        by_cases hk : x.kind = 2
        · rw [if_pos hk] at hp
          rw [ipL_key hk] at hi
          obtain ⟨qs, hqs, rfl⟩ := Option.map_eq_some_iff.1 hi
          rw [valN_out]
          dsimp only at hp
          by_cases hy1 : y.kind = 1
          · rw [if_pos hy1] at hp
            injection hp with hp
            subst hp
            obtain ⟨f1, f2, f3, f4⟩ := addP_facts p x.text emptyB cm hD hks
            cases r with
            | nil =>
              rw [ipL_skip (by omega) (by omega)] at hqs
              simp [outI, ipL] at hqs
              subst hqs
              rw [if_neg (by omega)]
              exact ⟨f2, fun k => by rw [f3 k]; rfl, by simpa using f4⟩
            | cons z r => have : 2 ≤ y.kind := h3.1; omega
          · rw [if_neg hy1] at hp
            by_cases hy3 : y.kind = 3
            · rw [if_pos hy3] at hp ⊢
              rw [ipL_skip (by omega) (by omega)] at hqs
              obtain ⟨f1, f2, f3, f4⟩ := addP_facts p x.text y.text cm hD hks
              cases r with
              | nil => have : y.kind < 2 := h3; omega
              | cons z r =>
                obtain ⟨g1, g2, g3⟩ := ih _ _ _ _ _ (by simp at hn' ⊢; omega) h3.2.2 f1 f2 hp hqs
                refine ⟨g1, fun k => ?_, ?_⟩
                · rw [g2 k, f3 k]
                  rfl
                · simp
                  omega
            · rw [if_neg hy3] at hp
              cases hp
        · rw [if_neg hk] at hp
          cases hp
/-- the law: what a text's items tell is what its parser keeps -/
theorem items_law (s : ByteArray) (p : PSt) (ps : List (ByteArray × ByteArray)) (hp : parL (lexL s) [] pst0 = some p) (hi : ipL (outI (lexL s)) = some ps) :
    (∀ k ∈ p.ks, lastF ps k none = some (rawOf p.D k)) ∧ p.ks.length ≤ ps.length := by
  obtain ⟨h1, h2, h3⟩ := parL_ip _ _ [] pst0 p ps (Nat.le_refl _) (wfI_lexL s) ⟨[], rfl⟩ (fun k hk => by simp [pst0] at hk) hp hi
  refine ⟨fun k hk => ?_, by simpa [pst0] using h3⟩
  rw [← has_rawO (h1 k hk), h2 k]
  rfl
end Go.Proofs.YtgmhigjhooihdaaDoor


set_option linter.unusedVariables false
namespace Go.Proofs.YtgmhigjhooihdaaDoor
open Go.RowKit Plain Go.Maps

def atL (s : ByteArray) (p : Nat) (l : List UInt8) : Prop := s.data.toList.drop p = l
theorem atL_next {s : ByteArray} {p : Nat} {x : UInt8} {r : List UInt8} (h : atL s p (x :: r)) : atL s (p + 1) r := by
  unfold atL at h ⊢
  rw [← List.drop_drop, h]
  rfl
theorem atL_app {s : ByteArray} {p : Nat} : ∀ {l r : List UInt8}, atL s p (l ++ r) → atL s (p + l.length) r := by
  intro l r h
  unfold atL at h ⊢
  rw [← List.drop_drop, h, List.drop_left]
theorem atL_lt {s : ByteArray} {p : Nat} {x : UInt8} {r : List UInt8} (h : atL s p (x :: r)) : p < s.size := by
  unfold atL at h
  have := congrArg List.length h
  rw [List.length_drop, ← Lib.size_eq] at this
  simp at this
  omega
theorem atL_end {s : ByteArray} {p : Nat} (h : atL s p []) : ¬ p < s.size := by
  unfold atL at h
  have := congrArg List.length h
  rw [List.length_drop, ← Lib.size_eq] at this
  simp at this
  omega
theorem atL_dec {s : ByteArray} {p : Nat} {x : UInt8} {r : List UInt8} (h : atL s p (x :: r)) (hx : x.toNat < 128) : rAt s p = x.toNat ∧ kAt s p = 1 := by
  unfold atL at h
  have h1 := Lib.decodeL_drop s p
  rw [h, Lib.decodeL_ascii x r hx] at h1
  unfold rAt kAt
  rw [← h1]
  exact ⟨rfl, rfl⟩
theorem val_stop (s : ByteArray) (p : Nat) (acc : List Nat) (rest : List UInt8) (h : atL s p (10 :: rest)) : valL s p acc = .ok (acc, p + 1, false) := by
  obtain ⟨d1, d2⟩ := atL_dec h (by decide)
  have d1' : rAt s p = 10 := d1
  unfold valL
  rw [dif_pos (atL_lt h), d1', if_neg (by decide), if_pos (by decide), d2]
theorem skip_run (s : ByteArray) : ∀ (bl : List UInt8) (p : Nat) (rest : List UInt8), (∀ c ∈ bl, c.toNat < 128 ∧ wsR c.toNat = true) → atL s p (bl ++ rest) → skipW s p = skipW s (p + bl.length) := by
  intro bl
  induction bl with
  | nil => intro p rest h1 h2; simp
  | cons c bl ih =>
    intro p rest h1 h2
    obtain ⟨a1, a2⟩ := h1 c List.mem_cons_self
    obtain ⟨d1, d2⟩ := atL_dec h2 a1
    conv => lhs; unfold skipW
    rw [dif_pos (atL_lt h2), d1, if_pos a2, d2]
    rw [ih (p + 1) rest (fun x hx => h1 x (List.mem_cons_of_mem _ hx)) (atL_next h2)]
    congr 1
    simp
    omega
theorem skip_stop (s : ByteArray) (p : Nat) (x : UInt8) (rest : List UInt8) (h : atL s p (x :: rest)) (h1 : x.toNat < 128) (h2 : wsR x.toNat = false) : skipW s p = p := by
  obtain ⟨d1, d2⟩ := atL_dec h h1
  unfold skipW
  rw [dif_pos (atL_lt h), d1, if_neg (by rw [h2]; simp)]
theorem lex_ws (s : ByteArray) (m p : Nat) (x : UInt8) (rest : List UInt8) (h : atL s p (x :: rest)) (hx : x = 32 ∨ x = 10) : lexN s (m + 1) .before p = lexN s m .before (p + 1) := by
  have h1 : x.toNat < 128 := by rcases hx with rfl | rfl <;> decide
  obtain ⟨d1, d2⟩ := atL_dec h h1
  conv => lhs; unfold lexN lexS
  dsimp only
  simp only [if_pos (atL_lt h), d1, d2]
  rcases hx with rfl | rfl
  · simp [eolR, wsR]
  · simp [eolR]
theorem lex_end (s : ByteArray) (m p : Nat) (h : atL s p []) : lexN s (m + 1) .before p = [⟨1, p, emptyB⟩] := by
  conv => lhs; unfold lexN lexS
  dsimp only
  simp only [if_neg (atL_end h)]
  rfl
theorem enc_asc (b : UInt8) (h : b.toNat < 128) : Lib.encodeRune (b.toNat : Int) = [b] := by
  unfold Lib.encodeRune
  rw [Lib.encodeRuneZ_one (by omega) (by omega)]
  simp
end Go.Proofs.YtgmhigjhooihdaaDoor


set_option linter.unusedVariables false
namespace Go.Proofs.YtgmhigjhooihdaaDoor
open Go.RowKit Plain Go.Maps

/-- the parser's state is small -/
structure PBd (M N : Nat) (p : PSt) : Prop where
  tidy : Tidy p.D
  keys : ∀ k ∈ p.ks, k.size ≤ M
  kn : p.ks.length ≤ N
  dn : Maps.size p.D ≤ N
  cn : ∀ k c, p.cf k = some c → c.length ≤ N
  has : ∀ k ∈ p.ks, Maps.has p.D (keyL8 k) = true
  vals : ∀ k, (rawOf p.D k).size ≤ M
theorem rawOf_put {D : DataW Unit} (hD : IsMap D) (k v x : ByteArray) : rawOf (D.put (keyL8 k) (.lit (.string v.data.toList))) x = if k = x then v else rawOf D x := by
  by_cases h : k = x
  · subst h
    rw [if_pos rfl, rawOf_of (atKey_put_same (k := keyL8 k) hD (keyL8_key k) _ _)]
  · have hne : keyL8 x ≠ keyL8 k := fun e => h (by
      unfold keyL8 at e
      injection e with e
      exact (ByteArray.ext (Array.toList_inj.1 e)).symm)
    rw [if_neg h]
    unfold rawOf
    rw [atKey_put_other hne]
theorem PBd.add {M N : Nat} {p : PSt} (h : PBd M N p) {T V : ByteArray} {cm : List ByteArray} (hT : T.size ≤ M) (hV : V.size ≤ M) (hc : cm.length ≤ N + 1) : PBd M (N + 1) (putV (addC (addK p T) T cm) T V) := by
  have e1 : (putV (addC (addK p T) T cm) T V).D = p.D.put (keyL8 T) (.lit (.string V.data.toList)) := by
    unfold putV addC addK
    split <;> split <;> rfl
  have e2 : (putV (addC (addK p T) T cm) T V).ks = if Maps.has p.D (keyL8 T) = true then p.ks else p.ks ++ [T] := by
    unfold putV addC addK
    split <;> split <;> rfl
  have e3 : (putV (addC (addK p T) T cm) T V).cf = if cm = [] then p.cf else updC p.cf T cm := by
    unfold putV addC addK
    split <;> split <;> rfl
  obtain ⟨f1, f2, f3, f4⟩ := addP_facts p T V cm h.tidy.isMap h.has
  refine ⟨?_, ?_, ?_, ?_, ?_, f2, ?_⟩
  · rw [e1]; exact h.tidy.put (keyL8_key T) _
  · intro k hk
    rw [e2] at hk
    split at hk
    · exact h.keys k hk
    · rcases List.mem_append.1 hk with h9 | h9
      · exact h.keys k h9
      · simp at h9; subst h9; exact hT
  · have := h.kn; omega
  · rw [e1, size_put h.tidy]
    have := h.dn
    split <;> omega
  · intro k c hk
    rw [e3] at hk
    split at hk
    · have := h.cn k c hk; omega
    · unfold updC at hk
      split at hk
      · injection hk with hk; subst hk; exact hc
      · have := h.cn k c hk; omega
  · intro k
    rw [e1, rawOf_put h.tidy.isMap]
    split
    · exact hV
    · exact h.vals k
theorem PBd.mono {M N N' : Nat} {p : PSt} (h : PBd M N p) (hn : N ≤ N') : PBd M N' p :=
  ⟨h.tidy, h.keys, Nat.le_trans h.kn hn, Nat.le_trans h.dn hn, fun k c hk => Nat.le_trans (h.cn k c hk) hn, h.has, h.vals⟩
theorem pbd0 (M N : Nat) : PBd M N pst0 := ⟨tidy_empty, fun k hk => by simp [pst0] at hk, Nat.zero_le _, Nat.zero_le _, fun k c hk => by simp [pst0] at hk, fun k hk => by simp [pst0] at hk, fun k => by
  have : rawOf pst0.D k = ⟨#[]⟩ := rfl
  rw [this]
  exact Nat.zero_le _⟩
theorem parL_bd (M : Nat) : ∀ (m : Nat) (l : List LI) (cm : List ByteArray) (p p' : PSt) (N : Nat), l.length ≤ m → (∀ x ∈ l, x.text.size ≤ M) → PBd M N p → cm.length ≤ N → parL l cm p = some p' → PBd M (N + l.length) p' := by
  intro m
  induction m with
  | zero => intro l cm p p' N hl; cases l with
    | nil => intro _ _ _ h; simp [parL] at h
    | cons x r => simp at hl
  | succ m ih =>
    intro l cm p p' N hl hx hp hc h
    cases l with
    | nil => simp [parL] at h
    | cons x r =>
      have hxT := hx x List.mem_cons_self
      simp only [List.length_cons] at hl
      unfold parL at h
      by_cases h1 : x.kind = 1
      · rw [if_pos h1] at h
        injection h with h
        subst h
        exact hp.mono (by omega)
      · rw [if_neg h1] at h
        by_cases h4 : x.kind = 4
        · rw [if_pos h4] at h
          have := ih r _ p p' (N + 1) (by omega) (fun y hy => hx y (List.mem_cons_of_mem _ hy)) (hp.mono (by omega)) (by simp; omega) h
          exact this.mono (by simp; omega)
        · rw [if_neg h4] at h
          by_cases h2 : x.kind = 2
          · rw [if_pos h2] at h
            cases r with
            | nil => cases h
            | cons y r =>
              simp only [List.length_cons] at hl
              dsimp only at h
              by_cases hy1 : y.kind = 1
              · rw [if_pos hy1] at h
                injection h with h
                subst h
                exact (hp.add hxT (Nat.zero_le _) (by omega)).mono (by simp)
              · rw [if_neg hy1] at h
                by_cases hy3 : y.kind = 3
                · rw [if_pos hy3] at h
                  have hyT := hx y (List.mem_cons_of_mem _ List.mem_cons_self)
                  have := ih r [] _ p' (N + 1) (by omega) (fun z hz => hx z (List.mem_cons_of_mem _ (List.mem_cons_of_mem _ hz))) (hp.add hxT hyT (by omega)) (Nat.zero_le _) h
                  exact this.mono (by simp; omega)
                · rw [if_neg hy3] at h
                  cases h
          · rw [if_neg h2] at h
            cases h
theorem parL_small (s : ByteArray) (p : PSt) (hs : s.size ≤ 100000) (h : parL (lexL s) [] pst0 = some p) : PBd 1000000 1000000 p := by
  have hl := lexN_len s (4 * s.size + 4) .before 0
  have := parL_bd 1000000 _ (lexL s) [] pst0 p 0 (Nat.le_refl _) (fun x hx => by have := lexL_text s x hx; omega) (pbd0 _ _) (Nat.zero_le _) h
  exact this.mono (by unfold lexL; omega)
theorem mp_size {w : World} {mb n : Nat} {D : DataW Unit} (h : MpS w mb n D) : MpS w mb (Maps.size D) D := by
  obtain ⟨es, clock, hb, F, hs, rfl⟩ := h
  exact ⟨es, clock, hb, F, by simp [Maps.size, length_sorted], rfl⟩
end Go.Proofs.YtgmhigjhooihdaaDoor


set_option linter.unusedVariables false
namespace Go.Proofs.YtgmhigjhooihdaaDoor
open Go.RowKit Plain Go.Maps

/-- a rune that a character of UTF-8 is -/
def GR (R : Nat) : Prop := Plain.Good (Lib.encodeRune (R : Int)) ∧ runeOf (Lib.encodeRune (R : Int)) = R
theorem gr_of {c : List UInt8} (h : Plain.Good c) : GR (runeOf c) := by
  unfold GR
  rw [encode_runeOf c h]
  exact ⟨h, rfl⟩
theorem gr_rns {s : ByteArray} (h : Lib.validD s.data.toList = true) : ∀ R ∈ rnsOf s.data.toList, GR R := by
  intro R hR
  unfold rnsOf at hR
  obtain ⟨c, hc, rfl⟩ := List.mem_map.1 hR
  exact gr_of (segs_good _ h c hc)
theorem textOf_rns {s : ByteArray} (h : Lib.validD s.data.toList = true) : textOf (rnsOf s.data.toList) = s := by
  have h1 := textOf_good (segs s.data.toList) (segs_good _ h)
  rw [segs_flatten] at h1
  exact ByteArray.ext (Array.toList_inj.1 h1)
theorem rns_flat {l : List UInt8} (h : Lib.validD l = true) : ((rnsOf l).map fun (R : Nat) => Lib.encodeRune (R : Int)).flatten = l := by
  conv => rhs; rw [← segs_flatten l]
  unfold rnsOf
  rw [List.map_map]
  congr 1
  conv => rhs; rw [← List.map_id (segs l)]
  exact List.map_congr_left fun c hc => encode_runeOf c (segs_good _ h c hc)
theorem atL_len {s : ByteArray} {p : Nat} {l : List UInt8} (h : atL s p l) (hp : p ≤ s.size) : p + l.length = s.size := by
  unfold atL at h
  have := congrArg List.length h
  rw [List.length_drop, ← Lib.size_eq] at this
  omega
/-- a character at a place -/
theorem atR {s : ByteArray} {p R : Nat} {rest : List UInt8} (h : atL s p (Lib.encodeRune (R : Int) ++ rest)) (hg : GR R) : p < s.size ∧ rAt s p = R ∧ kAt s p = (Lib.encodeRune (R : Int)).length ∧ atL s (p + kAt s p) rest := by
  have h0 := h
  unfold atL at h
  have hd := Lib.decodeL_drop s p
  rw [h, good_append _ _ hg.1] at hd
  have e1 : rAt s p = R := by unfold rAt; rw [← hd]; exact hg.2
  have e2 : kAt s p = (Lib.encodeRune (R : Int)).length := by unfold kAt; rw [← hd]; exact hg.1.2.1
  refine ⟨?_, e1, e2, ?_⟩
  · have := congrArg List.length h
    rw [List.length_drop, ← Lib.size_eq, List.length_append] at this
    have h2 : 0 < (Lib.encodeRune (R : Int)).length := List.length_pos_iff.2 hg.1.1
    omega
  · rw [e2]
    exact atL_app h0
/-- what is written for a key's rune -/
def wrK (R : Nat) : List UInt8 := if R = 12 then [92, 102] else if R = 10 then [92, 110] else if R = 13 then [92, 114] else if R = 9 then [92, 116] else if R = 92 then [92, 92] else if R = 32 then [92, 32] else if R = 58 then [92, 58] else if R = 61 then [92, 61] else Lib.encodeRune (R : Int)
/-- what is written for a value's rune; f: the first one -/
def wrV (f : Bool) (R : Nat) : List UInt8 := if R = 12 then [92, 102] else if R = 10 then [92, 110] else if R = 13 then [92, 114] else if R = 9 then [92, 116] else if R = 92 then [92, 92] else if f = true ∧ R = 32 then [92, 32] else Lib.encodeRune (R : Int)
def keyT (rs : List Nat) : List UInt8 := (rs.map wrK).flatten
def valT : List Nat → List UInt8
  | [] => []
  | R :: rs => wrV true R ++ (rs.map (wrV false)).flatten
theorem two_at {s : ByteArray} {p : Nat} {y : UInt8} {rest : List UInt8} (h : atL s p (92 :: y :: rest)) (hy : y.toNat < 128) : p < s.size ∧ rAt s p = 92 ∧ kAt s p = 1 ∧ p + 1 < s.size ∧ rAt s (p + 1) = y.toNat ∧ kAt s (p + 1) = 1 ∧ atL s (p + 2) rest := by
  obtain ⟨d1, d2⟩ := atL_dec h (by decide)
  have hn := atL_next h
  obtain ⟨e1, e2⟩ := atL_dec hn hy
  exact ⟨atL_lt h, d1, d2, atL_lt hn, e1, e2, atL_next hn⟩
theorem key_two {s : ByteArray} {p : Nat} {acc : List Nat} {y : UInt8} {rest : List UInt8} (h : atL s p (92 :: y :: rest)) (hy : y.toNat < 128) (R : Nat) (hs : (escC y.toNat = true ∧ decEsc y.toNat = R) ∨ (escC y.toNat = false ∧ y.toNat ≠ 117 ∧ y.toNat = R)) : keyL s p acc = keyL s (p + 2) (acc ++ [R]) ∧ atL s (p + 2) rest := by
  obtain ⟨a1, a2, a3, a4, a5, a6, a7⟩ := two_at h hy
  refine ⟨?_, a7⟩
  refine keyL_esc a1 a2 (R, p + 2) ?_
  rw [a3]
  unfold scanE
  rw [if_pos a4, a5, a6]
  rcases hs with ⟨h1, h2⟩ | ⟨h1, h2, h3⟩
  · rw [if_pos h1, h2]
  · rw [if_neg (by rw [h1]; simp), if_neg h2, h3]
theorem val_two {s : ByteArray} {p : Nat} {acc : List Nat} {y : UInt8} {rest : List UInt8} (h : atL s p (92 :: y :: rest)) (hy : y.toNat < 128) (he : eolR y.toNat = false) (R : Nat) (hs : (escC y.toNat = true ∧ decEsc y.toNat = R) ∨ (escC y.toNat = false ∧ y.toNat ≠ 117 ∧ y.toNat = R)) : valL s p acc = valL s (p + 2) (acc ++ [R]) ∧ atL s (p + 2) rest := by
  obtain ⟨a1, a2, a3, a4, a5, a6, a7⟩ := two_at h hy
  refine ⟨?_, a7⟩
  refine valL_esc a1 a2 (by rw [a3, a5, he]; simp) (R, p + 2) ?_
  rw [a3]
  unfold scanE
  rw [if_pos a4, a5, a6]
  rcases hs with ⟨h1, h2⟩ | ⟨h1, h2, h3⟩
  · rw [if_pos h1, h2]
  · rw [if_neg (by rw [h1]; simp), if_neg h2, h3]
theorem key_piece {s : ByteArray} {p R : Nat} {acc : List Nat} {rest : List UInt8} (h : atL s p (wrK R ++ rest)) (hg : GR R) : keyL s p acc = keyL s (p + (wrK R).length) (acc ++ [R]) ∧ atL s (p + (wrK R).length) rest := by
  unfold wrK at h ⊢
  by_cases h1 : R = 12
  · subst h1; exact key_two (y := 102) h (by decide) 12 (.inl (by decide))
  by_cases h2 : R = 10
  · subst h2; exact key_two (y := 110) h (by decide) 10 (.inl (by decide))
  by_cases h3 : R = 13
  · subst h3; exact key_two (y := 114) h (by decide) 13 (.inl (by decide))
  by_cases h4 : R = 9
  · subst h4; exact key_two (y := 116) h (by decide) 9 (.inl (by decide))
  by_cases h5 : R = 92
  · subst h5; exact key_two (y := 92) h (by decide) 92 (.inr (by decide))
  by_cases h6 : R = 32
  · subst h6; exact key_two (y := 32) h (by decide) 32 (.inl (by decide))
  by_cases h7 : R = 58
  · subst h7; exact key_two (y := 58) h (by decide) 58 (.inl (by decide))
  by_cases h8 : R = 61
  · subst h8; exact key_two (y := 61) h (by decide) 61 (.inl (by decide))
  rw [if_neg h1, if_neg h2, if_neg h3, if_neg h4, if_neg h5, if_neg h6, if_neg h7, if_neg h8] at h ⊢
  obtain ⟨a1, a2, a3, a4⟩ := atR h hg
  have hk : endK R = false := by unfold endK; simp; omega
  rw [← a3]
  refine ⟨?_, a4⟩
  have := keyL_chr (acc := acc) a1 (by rw [a2]; exact h5) (by rw [a2]; exact hk)
  rw [a2] at this
  exact this
theorem val_piece {s : ByteArray} {p R : Nat} {f : Bool} {acc : List Nat} {rest : List UInt8} (h : atL s p (wrV f R ++ rest)) (hg : GR R) : valL s p acc = valL s (p + (wrV f R).length) (acc ++ [R]) ∧ atL s (p + (wrV f R).length) rest := by
  unfold wrV at h ⊢
  by_cases h1 : R = 12
  · subst h1; exact val_two (y := 102) h (by decide) (by decide) 12 (.inl (by decide))
  by_cases h2 : R = 10
  · subst h2; exact val_two (y := 110) h (by decide) (by decide) 10 (.inl (by decide))
  by_cases h3 : R = 13
  · subst h3; exact val_two (y := 114) h (by decide) (by decide) 13 (.inl (by decide))
  by_cases h4 : R = 9
  · subst h4; exact val_two (y := 116) h (by decide) (by decide) 9 (.inl (by decide))
  by_cases h5 : R = 92
  · subst h5; exact val_two (y := 92) h (by decide) (by decide) 92 (.inr (by decide))
  by_cases h6 : f = true ∧ R = 32
  · obtain ⟨rfl, rfl⟩ := h6; exact val_two (y := 32) h (by decide) (by decide) 32 (.inl (by decide))
  rw [if_neg h1, if_neg h2, if_neg h3, if_neg h4, if_neg h5, if_neg h6] at h ⊢
  obtain ⟨a1, a2, a3, a4⟩ := atR h hg
  have hk : eolR R = false := by unfold eolR; simp; omega
  rw [← a3]
  refine ⟨?_, a4⟩
  have := valL_chr (acc := acc) a1 (by rw [a2]; exact h5) (by rw [a2]; exact hk)
  rw [a2] at this
  exact this
theorem key_runs (s : ByteArray) : ∀ (rs : List Nat) (p : Nat) (acc : List Nat) (rest : List UInt8), (∀ R ∈ rs, GR R) → atL s p (keyT rs ++ rest) → keyL s p acc = keyL s (p + (keyT rs).length) (acc ++ rs) ∧ atL s (p + (keyT rs).length) rest := by
  intro rs
  induction rs with
  | nil => intro p acc rest hg h; simpa [keyT] using h
  | cons R rs ih =>
    intro p acc rest hg h
    have e : keyT (R :: rs) = wrK R ++ keyT rs := rfl
    rw [e, List.append_assoc] at h
    obtain ⟨b1, b2⟩ := key_piece (acc := acc) h (hg R List.mem_cons_self)
    obtain ⟨b3, b4⟩ := ih _ (acc ++ [R]) rest (fun x hx => hg x (List.mem_cons_of_mem _ hx)) b2
    rw [e, List.length_append, ← Nat.add_assoc]
    refine ⟨?_, b4⟩
    rw [b1, b3, List.append_assoc]
    rfl
theorem val_runs (s : ByteArray) : ∀ (rs : List Nat) (p : Nat) (acc : List Nat) (rest : List UInt8), (∀ R ∈ rs, GR R) → atL s p ((rs.map (wrV false)).flatten ++ rest) → valL s p acc = valL s (p + ((rs.map (wrV false)).flatten).length) (acc ++ rs) ∧ atL s (p + ((rs.map (wrV false)).flatten).length) rest := by
  intro rs
  induction rs with
  | nil => intro p acc rest hg h; simpa using h
  | cons R rs ih =>
    intro p acc rest hg h
    have e : ((R :: rs).map (wrV false)).flatten = wrV false R ++ (rs.map (wrV false)).flatten := rfl
    rw [e, List.append_assoc] at h
    obtain ⟨b1, b2⟩ := val_piece (acc := acc) h (hg R List.mem_cons_self)
    obtain ⟨b3, b4⟩ := ih _ (acc ++ [R]) rest (fun x hx => hg x (List.mem_cons_of_mem _ hx)) b2
    rw [e, List.length_append, ← Nat.add_assoc]
    refine ⟨?_, b4⟩
    rw [b1, b3, List.append_assoc]
    rfl
theorem val_all (s : ByteArray) (rs : List Nat) (p : Nat) (acc : List Nat) (rest : List UInt8) (hg : ∀ R ∈ rs, GR R) (h : atL s p (valT rs ++ rest)) : valL s p acc = valL s (p + (valT rs).length) (acc ++ rs) ∧ atL s (p + (valT rs).length) rest := by
  cases rs with
  | nil => simpa [valT] using h
  | cons R rs =>
    have e : valT (R :: rs) = wrV true R ++ (rs.map (wrV false)).flatten := rfl
    rw [e, List.append_assoc] at h
    obtain ⟨b1, b2⟩ := val_piece (acc := acc) h (hg R List.mem_cons_self)
    obtain ⟨b3, b4⟩ := val_runs s rs _ (acc ++ [R]) rest (fun x hx => hg x (List.mem_cons_of_mem _ hx)) b2
    rw [e, List.length_append, ← Nat.add_assoc]
    refine ⟨?_, b4⟩
    rw [b1, b3, List.append_assoc]
    rfl
/-- a value's begin is no blank -/
theorem val_skip (s : ByteArray) (rs : List Nat) (p : Nat) (rest : List UInt8) (hg : ∀ R ∈ rs, GR R) (h : atL s p (valT rs ++ 10 :: rest)) : skipW s p = p := by
  have key : ∀ y : UInt8, ∀ r, y = 92 ∨ y = 10 → atL s p (y :: r) → skipW s p = p := fun y r hy h => by
    rcases hy with rfl | rfl
    · exact skip_stop s p 92 r h (by decide) (by decide)
    · exact skip_stop s p 10 r h (by decide) (by decide)
  cases rs with
  | nil => exact key 10 rest (.inr rfl) h
  | cons R rs =>
    have e : valT (R :: rs) = wrV true R ++ (rs.map (wrV false)).flatten := rfl
    rw [e, List.append_assoc] at h
    unfold wrV at h
    by_cases h1 : R = 12
    · rw [if_pos h1] at h; exact key 92 _ (.inl rfl) h
    by_cases h2 : R = 10
    · rw [if_neg h1, if_pos h2] at h; exact key 92 _ (.inl rfl) h
    by_cases h3 : R = 13
    · rw [if_neg h1, if_neg h2, if_pos h3] at h; exact key 92 _ (.inl rfl) h
    by_cases h4 : R = 9
    · rw [if_neg h1, if_neg h2, if_neg h3, if_pos h4] at h; exact key 92 _ (.inl rfl) h
    by_cases h5 : R = 92
    · rw [if_neg h1, if_neg h2, if_neg h3, if_neg h4, if_pos h5] at h; exact key 92 _ (.inl rfl) h
    by_cases h6 : R = 32
    · rw [if_neg h1, if_neg h2, if_neg h3, if_neg h4, if_neg h5, if_pos ⟨rfl, h6⟩] at h; exact key 92 _ (.inl rfl) h
    rw [if_neg h1, if_neg h2, if_neg h3, if_neg h4, if_neg h5, if_neg (fun h => h6 h.2)] at h
    obtain ⟨a1, a2, a3, a4⟩ := atR h (hg R List.mem_cons_self)
    unfold skipW
    rw [dif_pos a1, a2, if_neg]
    unfold wsR
    simp
    omega
def isSep (S : List UInt8) : Prop := S = [32, 61, 32] ∨ S = [61] ∨ S = [58] ∨ S = [32, 58, 32]
theorem isSep_len {S : List UInt8} (h : isSep S) : 1 ≤ S.length := by
  rcases h with rfl | rfl | rfl | rfl <;> decide
theorem skip32 (s : ByteArray) (p : Nat) (r : List UInt8) (h : atL s p (32 :: r)) : skipW s p = skipW s (p + 1) := skip_run s [32] p r (by decide) h
theorem acc_at (s : ByteArray) (p : Nat) (y : UInt8) (r : List UInt8) (h : atL s p (y :: r)) (hy : y = 61 ∨ y = 58) : skipW s p = p ∧ accS s p = p + 1 := by
  rcases hy with rfl | rfl
  · obtain ⟨d1, d2⟩ := atL_dec h (by decide)
    have d1' : rAt s p = 61 := d1
    exact ⟨skip_stop s p 61 r h (by decide) (by decide), by unfold accS; rw [if_pos (atL_lt h), d1', if_pos (by decide), d2]⟩
  · obtain ⟨d1, d2⟩ := atL_dec h (by decide)
    have d1' : rAt s p = 58 := d1
    exact ⟨skip_stop s p 58 r h (by decide) (by decide), by unfold accS; rw [if_pos (atL_lt h), d1', if_pos (by decide), d2]⟩
theorem bval_sep (s : ByteArray) (S : List UInt8) (hS : isSep S) (rs : List Nat) (p : Nat) (rest : List UInt8) (hg : ∀ R ∈ rs, GR R) (h : atL s p (S ++ (valT rs ++ 10 :: rest))) : bvalP s p = p + S.length ∧ endK (rAt s p) = true ∧ rAt s p ≠ 92 ∧ p < s.size := by
  unfold bvalP
  have hv := val_skip s rs _ rest hg (atL_app h)
  have hlt : ∀ y r, atL s p (y :: r) → p < s.size := fun y r h => atL_lt h
  rcases hS with rfl | rfl | rfl | rfl
  · have h1 := atL_next h
    obtain ⟨a1, a2⟩ := acc_at s (p + 1) 61 _ h1 (.inl rfl)
    have h2 := atL_next h1
    have d1 : rAt s p = 32 := (atL_dec h (by decide)).1
    refine ⟨?_, by rw [d1]; decide, by rw [d1]; decide, hlt _ _ h⟩
    rw [skip32 s p _ h, a1, a2, skip32 s _ _ h2]
    exact hv
  · obtain ⟨a1, a2⟩ := acc_at s p 61 _ h (.inl rfl)
    have d1 : rAt s p = 61 := (atL_dec h (by decide)).1
    refine ⟨?_, by rw [d1]; decide, by rw [d1]; decide, hlt _ _ h⟩
    rw [a1, a2]
    exact hv
  · obtain ⟨a1, a2⟩ := acc_at s p 58 _ h (.inr rfl)
    have d1 : rAt s p = 58 := (atL_dec h (by decide)).1
    refine ⟨?_, by rw [d1]; decide, by rw [d1]; decide, hlt _ _ h⟩
    rw [a1, a2]
    exact hv
  · have h1 := atL_next h
    obtain ⟨a1, a2⟩ := acc_at s (p + 1) 58 _ h1 (.inr rfl)
    have h2 := atL_next h1
    have d1 : rAt s p = 32 := (atL_dec h (by decide)).1
    refine ⟨?_, by rw [d1]; decide, by rw [d1]; decide, hlt _ _ h⟩
    rw [skip32 s p _ h, a1, a2, skip32 s _ _ h2]
    exact hv
/-- from 'before' at p the items 'l', and then 'before' at q -/
def LexTo (s : ByteArray) (p : Nat) (l : List LI) (q : Nat) : Prop := ∀ m, muN s .before p < m → ∃ m', muN s .before q < m' ∧ lexN s m .before p = l ++ lexN s m' .before q
theorem LexTo.refl (s : ByteArray) (p : Nat) : LexTo s p [] p := fun m hm => ⟨m, hm, rfl⟩
theorem LexTo.trans {s : ByteArray} {p q r : Nat} {l k : List LI} (h : LexTo s p l q) (g : LexTo s q k r) : LexTo s p (l ++ k) r := fun m hm => by
  obtain ⟨m1, h1, e1⟩ := h m hm
  obtain ⟨m2, h2, e2⟩ := g m1 h1
  exact ⟨m2, h2, by rw [e1, e2, List.append_assoc]⟩
theorem lexTo_nl (s : ByteArray) (p : Nat) (r : List UInt8) (h : atL s p (10 :: r)) : LexTo s p [] (p + 1) := fun m hm => by
  have hlt := atL_lt h
  unfold muN phN at hm
  obtain ⟨k, rfl⟩ : ∃ k, m = k + 1 := ⟨m - 1, by omega⟩
  exact ⟨k, by unfold muN phN; omega, lex_ws s k p 10 r h (.inr rfl)⟩
theorem lexTo_end (s : ByteArray) (p q : Nat) (l : List LI) (h : LexTo s p l q) (hq : atL s q []) (m : Nat) (hm : muN s .before p < m) : lexN s m .before p = l ++ [⟨1, q, emptyB⟩] := by
  obtain ⟨m1, h1, e1⟩ := h m hm
  obtain ⟨k, rfl⟩ : ∃ k, m1 = k + 1 := ⟨m1 - 1, by omega⟩
  rw [e1, lex_end s k q hq]
/-- a key and its value -/
theorem lexTo_kv (s : ByteArray) (p : Nat) (ks vs : List Nat) (S rest : List UInt8) (hS : isSep S) (hk : ks ≠ []) (hgk : ∀ R ∈ ks, GR R) (hgv : ∀ R ∈ vs, GR R) (h35 : ∀ R, ks.head? = some R → R ≠ 35 ∧ R ≠ 33)
    (h : atL s p (keyT ks ++ (S ++ (valT vs ++ 10 :: rest)))) : ∃ P, LexTo s p [⟨2, p, textOf ks⟩, ⟨3, P, textOf vs⟩] (p + (keyT ks).length + S.length + (valT vs).length + 1) ∧ atL s (p + (keyT ks).length + S.length + (valT vs).length + 1) rest := by
  obtain ⟨b1, b2⟩ := key_runs s ks p [] _ hgk h
  obtain ⟨c1, c2, c3, c4⟩ := bval_sep s S hS vs _ rest hgv b2
  have b3 := atL_app b2
  obtain ⟨d1, d2⟩ := val_all s vs _ [] (10 :: rest) hgv b3
  have hkey : keyL s p [] = .ok (ks, p + (keyT ks).length, false) := by
    rw [b1]
    exact keyL_end c4 c3 c2
  have hval : valL s (p + (keyT ks).length + S.length) [] = .ok (vs, p + (keyT ks).length + S.length + (valT vs).length + 1, false) := by
    rw [d1]
    exact val_stop s _ _ rest d2
  refine ⟨p + (keyT ks).length + S.length, fun m hm => ?_, atL_next d2⟩
  have hfirst : p < s.size ∧ eolR (rAt s p) = false ∧ ¬ (rAt s p = 35 ∨ rAt s p = 33) ∧ wsR (rAt s p) = false := by
    obtain ⟨R, ks', rfl⟩ := List.exists_cons_of_ne_nil hk
    have hR := h35 R rfl
    have e : keyT (R :: ks') = wrK R ++ keyT ks' := rfl
    rw [e, List.append_assoc] at h
    have key92 : ∀ r, atL s p (92 :: r) → p < s.size ∧ eolR (rAt s p) = false ∧ ¬ (rAt s p = 35 ∨ rAt s p = 33) ∧ wsR (rAt s p) = false := fun r h => by
      have d1 : rAt s p = 92 := (atL_dec h (by decide)).1
      rw [d1]
      exact ⟨atL_lt h, by decide, by decide, by decide⟩
    unfold wrK at h
    by_cases h1 : R = 12
    · rw [if_pos h1] at h; exact key92 _ h
    by_cases h2 : R = 10
    · rw [if_neg h1, if_pos h2] at h; exact key92 _ h
    by_cases h3 : R = 13
    · rw [if_neg h1, if_neg h2, if_pos h3] at h; exact key92 _ h
    by_cases h4 : R = 9
    · rw [if_neg h1, if_neg h2, if_neg h3, if_pos h4] at h; exact key92 _ h
    by_cases h5 : R = 92
    · rw [if_neg h1, if_neg h2, if_neg h3, if_neg h4, if_pos h5] at h; exact key92 _ h
    by_cases h6 : R = 32
    · rw [if_neg h1, if_neg h2, if_neg h3, if_neg h4, if_neg h5, if_pos h6] at h; exact key92 _ h
    by_cases h7 : R = 58
    · rw [if_neg h1, if_neg h2, if_neg h3, if_neg h4, if_neg h5, if_neg h6, if_pos h7] at h; exact key92 _ h
    by_cases h8 : R = 61
    · rw [if_neg h1, if_neg h2, if_neg h3, if_neg h4, if_neg h5, if_neg h6, if_neg h7, if_pos h8] at h; exact key92 _ h
    rw [if_neg h1, if_neg h2, if_neg h3, if_neg h4, if_neg h5, if_neg h6, if_neg h7, if_neg h8] at h
    obtain ⟨a1, a2, a3, a4⟩ := atR h (hgk R List.mem_cons_self)
    rw [a2]
    refine ⟨a1, ?_, by omega, ?_⟩
    · unfold eolR; simp; omega
    · unfold wsR; simp; omega
  obtain ⟨f1, f2, f3, f4⟩ := hfirst
  have hmu : muN s .before p = 4 * (s.size - p) + 3 := rfl
  have hq : p + (keyT ks).length + S.length + (valT vs).length + 1 ≤ s.size := by
    have := (valL_bd s (p + (keyT ks).length + S.length) [] (by
      have := (bvalP_bd s (p + (keyT ks).length) (by omega)).2
      rw [c1] at this
      exact this) _ hval).2.1
    exact this
  obtain ⟨k, rfl⟩ : ∃ k, m = k + 4 := ⟨m - 4, by omega⟩
  refine ⟨k, by show 4 * (s.size - _) + 3 < _; have hs3 := isSep_len hS; omega, ?_⟩
  have h1 : lexN s (k + 4) .before p = lexN s (k + 3) .key p := by
    conv => lhs; unfold lexN lexS
    dsimp only
    simp only [if_pos f1]
    simp [f2, f3, f4]
  have h2 : lexN s (k + 3) .key p = ⟨2, p, textOf ks⟩ :: lexN s (k + 2) .bval (p + (keyT ks).length) := by
    conv => lhs; unfold lexN lexS
    simp [hkey, hk]
  have h3 : lexN s (k + 2) .bval (p + (keyT ks).length) = lexN s (k + 1) .val (p + (keyT ks).length + S.length) := by
    conv => lhs; unfold lexN lexS
    simp [c1]
  have h4 : lexN s (k + 1) .val (p + (keyT ks).length + S.length) = ⟨3, p + (keyT ks).length + S.length, textOf vs⟩ :: lexN s k .before (p + (keyT ks).length + S.length + (valT vs).length + 1) := by
    conv => lhs; unfold lexN lexS
    simp [hval]
  rw [h1, h2, h3, h4]
  rfl
theorem com_runs (s : ByteArray) : ∀ (rs : List Nat) (p : Nat) (acc : List Nat) (rest : List UInt8), (∀ R ∈ rs, GR R ∧ eolR R = false) → atL s p ((rs.map fun (R : Nat) => Lib.encodeRune (R : Int)).flatten ++ 10 :: rest) → comL s p acc = (acc ++ rs, p + ((rs.map fun (R : Nat) => Lib.encodeRune (R : Int)).flatten).length + 1, false) ∧ atL s (p + ((rs.map fun (R : Nat) => Lib.encodeRune (R : Int)).flatten).length + 1) rest := by
  intro rs
  induction rs with
  | nil =>
    intro p acc rest hg h
    have h' : atL s p (10 :: rest) := h
    have d1 : rAt s p = 10 := (atL_dec h' (by decide)).1
    have d2 : kAt s p = 1 := (atL_dec h' (by decide)).2
    refine ⟨?_, atL_next h'⟩
    rw [comL, dif_pos (atL_lt h'), d1, if_pos (by decide), d2]
    simp
  | cons R rs ih =>
    intro p acc rest hg h
    have e : ((R :: rs).map fun (R : Nat) => Lib.encodeRune (R : Int)).flatten = Lib.encodeRune (R : Int) ++ (rs.map fun (R : Nat) => Lib.encodeRune (R : Int)).flatten := rfl
    rw [e, List.append_assoc] at h
    obtain ⟨hR, hE⟩ := hg R List.mem_cons_self
    obtain ⟨a1, a2, a3, a4⟩ := atR h hR
    rw [a3] at a4
    obtain ⟨b3, b4⟩ := ih _ (acc ++ [R]) rest (fun x hx => hg x (List.mem_cons_of_mem _ hx)) a4
    rw [e, List.length_append, ← Nat.add_assoc]
    refine ⟨?_, b4⟩
    rw [comL, dif_pos a1, a2, if_neg (by rw [hE]; simp), a3, b3, List.append_assoc]
    rfl
/-- a comment -/
theorem lexTo_com (s : ByteArray) (p : Nat) (cs : List Nat) (rest : List UInt8) (hc : cs ≠ []) (hg : ∀ R ∈ cs, GR R ∧ eolR R = false) (hw : ∀ R, cs.head? = some R → wsR R = false)
    (h : atL s p (35 :: 32 :: ((cs.map fun (R : Nat) => Lib.encodeRune (R : Int)).flatten ++ 10 :: rest))) : LexTo s p [⟨4, p + 2, textOf cs⟩] (p + 2 + ((cs.map fun (R : Nat) => Lib.encodeRune (R : Int)).flatten).length + 1) ∧ atL s (p + 2 + ((cs.map fun (R : Nat) => Lib.encodeRune (R : Int)).flatten).length + 1) rest := by
  have h1 := atL_next h
  have h2 := atL_next h1
  obtain ⟨b1, b2⟩ := com_runs s cs (p + 2) [] rest hg h2
  have hsk : skipW s (p + 1) = p + 2 := by
    rw [skip32 s _ _ h1]
    obtain ⟨R, cs', rfl⟩ := List.exists_cons_of_ne_nil hc
    have e : ((R :: cs').map fun (R : Nat) => Lib.encodeRune (R : Int)).flatten = Lib.encodeRune (R : Int) ++ (cs'.map fun (R : Nat) => Lib.encodeRune (R : Int)).flatten := rfl
    rw [e, List.append_assoc] at h2
    obtain ⟨a1, a2, a3, a4⟩ := atR h2 (hg R List.mem_cons_self).1
    unfold skipW
    rw [dif_pos a1, a2, if_neg (by rw [hw R rfl]; simp)]
  refine ⟨fun m hm => ?_, b2⟩
  have hmu : muN s .before p = 4 * (s.size - p) + 3 := rfl
  have d1 : rAt s p = 35 := (atL_dec h (by decide)).1
  have d2 : kAt s p = 1 := (atL_dec h (by decide)).2
  have hlt := atL_lt h
  have hlt1 := atL_lt h1
  have hq := (comL_bd s (p + 2) [] (by omega)).2.1
  rw [b1] at hq
  dsimp only at hq
  obtain ⟨k, rfl⟩ : ∃ k, m = k + 2 := ⟨m - 2, by omega⟩
  refine ⟨k, by show 4 * (s.size - _) + 3 < _; omega, ?_⟩
  have g1 : lexN s (k + 2) .before p = lexN s (k + 1) .comment (p + 1) := by
    conv => lhs; unfold lexN lexS
    dsimp only
    simp only [if_pos hlt, d1, d2]
    simp [eolR]
  have g2 : lexN s (k + 1) .comment (p + 1) = ⟨4, p + 2, textOf cs⟩ :: lexN s k .before (p + 2 + ((cs.map fun (R : Nat) => Lib.encodeRune (R : Int)).flatten).length + 1) := by
    conv => lhs; unfold lexN lexS
    simp [hsk, b1]
  rw [g1, g2]
  rfl
end Go.Proofs.YtgmhigjhooihdaaDoor


set_option linter.unusedVariables false
namespace Go.Proofs.YtgmhigjhooihdaaDoor
open Go.RowKit Plain Go.Maps

theorem zeroRow (w : World) : (zeroValue 26).run Tryd.prog w = .ok (.slice none 0 0) w := by kernel_rfl
end Go.Proofs.YtgmhigjhooihdaaDoor


set_option linter.unusedVariables false
namespace Go.Proofs.YtgmhigjhooihdaaDoor
open Go.RowKit Plain Go.Maps

theorem key_cell {w w1 : World} {a : Addr} {v : Value} (hg : w.grownBy w1 none) (h : w.cell? a = some v) : w1.cell? a = some v := by
  have hb := hg.block a.block (Lib.lt_of_cell h) (by simp)
  unfold World.cell? at h ⊢
  rw [hb]
  exact h
theorem row_cur {w : World} {B g n cp : Nat} {xs : List Value} (h : w.ownsRow B 9 1 (.slice (some ⟨g, 0, none⟩) n cp) n xs) : ∃ cur : Array Value, w.heap[g]? = some (.cells cur 9 (0, 0)) ∧ cur.size = cp := by
  rcases h.2 with ⟨hv, _⟩ | ⟨g', cap, cur, hv, q1, q2, q3, q4, q5, q6⟩
  · cases hv
  · injection hv with hv1 hv2 hv3
    injection hv1 with hv1
    injection hv1 with hv1
    subst hv1
    subst hv3
    exact ⟨cur, q2, by simpa using q5⟩
theorem row_src {w w1 : World} {B g n cp : Nat} {xs : List Value} (h : w.ownsRow B 9 1 (.slice (some ⟨g, 0, none⟩) n cp) n xs) (hg : w.grownBy w1 none) : ∀ j v, xs[j]? = some v → w1.cell? ((⟨g, 0, none⟩ : Addr).add j) = some v := by
  intro j v hv
  have hr := row_keep h (fun k hk => hg.block k (row_lt h hk).2 (by simp))
  have hj : j < n * 1 := by
    rcases h.2 with ⟨hv', _⟩ | ⟨g', cap, cur, hv', q1, q2, q3, q4, q5, q6⟩
    · cases hv'
    · have h9 := (List.getElem?_eq_some_iff.1 hv).1
      rw [← q6, List.length_take] at h9
      omega
  rw [add_at, Nat.zero_add, hr.cellAt j hj]
  exact hv
def KeysPost (n : Nat) (xs : List Value) (w : World) (e : Ending) (w' : World) : Prop := ∃ G, e = .returned (.slice (some ⟨G, 0, none⟩) n n) ∧ w'.ownsRow w.heap.size 9 1 (.slice (some ⟨G, 0, none⟩) n n) n xs ∧ Below w.heap.size w w'
end Go.Proofs.YtgmhigjhooihdaaDoor


set_option linter.unusedVariables false
namespace Go.Proofs.YtgmhigjhooihdaaDoor
open Go.RowKit Plain Go.Maps

theorem keyL8_k (k : ByteArray) : WideAt.IsKeyLit (keyL8 k) := by unfold keyL8; trivial
theorem str_key_inv {key : Value} {kl : Lit} (h : keyOf Tryd.prog 9 key = some kl) : ∃ s : ByteArray, key = .string s ∧ kl = .string s.data.toList ∧ s.size ≤ maxLen := by
  have hk := Tryd.underlying9
  cases key <;> simp [keyOf, hk, mapKey] at h
  exact ⟨_, rfl, h.2.symm, h.1⟩
/-- the step of a range over a map of texts by texts -/
theorem next_ss (w : World) {ops : Array Oper} {rest : List Oper} {o : Oper} {a : Act} {Q : Exit → Act → World → Prop}
    (hg : o.guard = none) (it : Operand) (hop : o.op = Op.next it false)
    (b r n : Nat) (D : DataW Unit) (left : Lit → Bool) (cnt : Nat) (hit : a.eval it = .pointer (some ⟨r, 0, none⟩)) (h : w.ranges Tryd.prog 9 (plainElem Tryd.prog 9) b r n D left cnt)
    (hDone : cnt = 0 → (∀ kl, left kl = false) → wpList Tryd.prog ops Q rest (a.put o.dst (.tuple #[.bool false])) w)
    (hMore : ∀ (x c : ByteArray) (w' : World) (cnt' : Nat), x.size ≤ maxLen → c.size ≤ maxLen → left (keyL8 x) = true → (∀ zd, D.atKey (keyL8 x) zd = .lit (.string c.data.toList)) → w'.ranges Tryd.prog 9 (plainElem Tryd.prog 9) b r n D (fun z => left z && !z.sameKey (keyL8 x)) cnt' → cnt' < cnt →
      w.grownBy w' (some r) → w'.heap.size = w.heap.size → (Instr.entry (.pointer (some ⟨r, 0, none⟩))).run Tryd.prog w' = .ok (.tuple #[.string x, .string c]) w' → wpList Tryd.prog ops Q rest (a.put o.dst (.tuple #[.bool true, .string x, .string c])) w') :
    wpList Tryd.prog ops Q (o :: rest) a w :=
  wpList_next_ranges w hg it hop 9 lawS (plainElem Tryd.prog 9) Value.string Value.string (fun key kl hkey => by obtain ⟨x, rfl, _⟩ := str_key_inv hkey; exact ⟨x, rfl⟩) (fun v y hv => by obtain ⟨c, rfl, _⟩ := plainElem_string_inv Tryd.underlying9 hv; exact ⟨c, rfl⟩)
    b r n D left cnt hit h hDone (fun x c kl y w' cnt' hkey hlk hv hat hrg hlt hgr hsz hen => by
      obtain ⟨x', ex, rfl, hwx⟩ := str_key_inv hkey
      cases ex
      obtain ⟨c', ec, rfl, hwc⟩ := plainElem_string_inv Tryd.underlying9 hv
      cases ec
      exact hMore x c w' cnt' hwx hwc hlk hat hrg hlt hgr hsz hen)
/-- 'm[k]' at texts by texts -/
theorem look_ss (w : World) {ops : Array Oper} {rest : List Oper} {o : Oper} {a : Act} {Q : Exit → Act → World → Prop}
    (hg : o.guard = none) (m x : Operand) (hop : o.op = Op.lookup 34 m x false) (b n : Nat) (D : DataW Unit)
    (hm : a.eval m = .map (some b)) (hown : MpS w b n D) (k : ByteArray) (hx : a.eval x = .string k) (hk : k.size ≤ maxLen)
    (hK : ∀ c : ByteArray, D.atKey (keyL8 k) (.lit (.string [])) = .lit (.string c.data.toList) → wpList Tryd.prog ops Q rest (a.put o.dst (.string c)) w) :
    wpList Tryd.prog ops Q (o :: rest) a w := by
  refine wpList_plain hg fun K' hK' => ?_
  obtain ⟨v, ps, hrun, hv⟩ := hown.lookup (t := 34) (e := 9) lawS Tryd.underlying34 (zeroS w) (plainElem_string (H := Unit) Tryd.underlying9 (by unfold maxLen; decide)) (WideMaps.keyOf_string_mk Tryd.underlying9 hk)
  obtain ⟨c, rfl, hz, hs⟩ := plainElem_string_inv Tryd.underlying9 hv
  unfold Oper.wp
  simp [execOp, hop, hm, hx, hrun, Result.andThen]
  exact hK' _ _ (hK c (congrArg Prod.fst hz))
theorem size_le_own {w : World} {mb n : Nat} {D : DataW Unit} (h : MpS w mb n D) : Maps.size D ≤ n := h.size_le
def MapPost (D : DataW Unit) (w : World) (e : Ending) (w' : World) : Prop := ∃ M, e = .returned (.map (some M)) ∧ w.heap.size ≤ M ∧ MpS w' M (Maps.size D) D ∧ Below w.heap.size w w'
end Go.Proofs.YtgmhigjhooihdaaDoor


set_option linter.unusedVariables false
namespace Go.Proofs.YtgmhigjhooihdaaDoor
open Go.RowKit Plain Go.Maps

/-- properties at 'pb', expanded or not -/
structure LP (B pb mb mc n nc : Nat) (p : PSt) (DC : DataW Value) (lv : Value) (dis : Bool) (w : World) : Prop where
  blk : w.heap[pb]? = some (.cells #[.string ⟨#[36, 123]⟩, .string ⟨#[125]⟩, .bool dis, .map (some mb), .map (some mc), lv, .string ⟨#[]⟩] 37 (0, 0))
  mp : MpS w mb n p.D
  cp : MpC w mc nc DC
  row : w.ownsRow B 9 1 lv p.ks.length (p.ks.map Value.string)
  cr : CRel B DC p.cf lv (.slice none 0 0) w
  lo : B ≤ pb ∧ B ≤ mb ∧ B ≤ mc
theorem LP.below {B pb mb mc n nc : Nat} {p : PSt} {DC : DataW Value} {lv : Value} {dis : Bool} {w w' : World} (h : LP B pb mb mc n nc p DC lv dis w) (hb : Below w.heap.size w w') : LP B pb mb mc n nc p DC lv dis w' :=
  ⟨(hb.block pb (lt_of_block h.blk)).trans h.blk, mp_keep h.mp (hb.block mb (map_lt (mp_is h.mp))), mpc_keep h.cp (hb.block mc (map_lt (mpc_is h.cp))), row_keep h.row (fun g hg => hb.block g (row_lt h.row hg).2), h.cr.keep (fun g cs hg _ _ => hb.block g (lt_of_block hg)) (.inl rfl) (.inl rfl), h.lo⟩
theorem LP.of {B pb mb mc n nc : Nat} {p : PSt} {DC : DataW Value} {lv : Value} {w : World} (dis : Bool) (h : PQ B pb mb mc n nc p DC lv w) (hc : CRel B DC p.cf lv (.slice none 0 0) w) : LP B pb mb mc n nc p DC lv dis (w.setCell ⟨pb, 2, none⟩ (.bool dis)) := by
  have hkp : ∀ j, j ≠ pb → (w.setCell ⟨pb, 2, none⟩ (.bool dis)).heap[j]? = w.heap[j]? := fun j hj => Below.heap_setCell _ _ _ _ hj
  have hne : ∀ {k : Nat} {c : Array Value}, w.heap[k]? = some (.cells c 9 (0, 0)) → k ≠ pb := fun h1 e => by
    subst e
    rw [h.blk] at h1
    injection h1 with h1
    injection h1 with _ h1
    exact absurd h1 (by decide)
  refine ⟨seven_set h.blk 2, mp_keep h.mp (hkp mb (fun e => by obtain ⟨es, c, h1⟩ := mp_is h.mp; rw [e, h.blk] at h1; cases h1)), mpc_keep h.cp (hkp mc (fun e => by obtain ⟨es, c, h1⟩ := mpc_is h.cp; rw [e, h.blk] at h1; cases h1)), row_keep h.row (fun g hg => by obtain ⟨cs, h1⟩ := row_cells h.row hg; exact hkp g (hne h1)), hc.keep (fun g cs h1 _ _ => hkp g (hne h1)) (.inl rfl) (.inl rfl), h.lo.1, h.lo.2.1, h.lo.2.2.1⟩
set_option maxRecDepth 100000 in
/-- a look-up in properties that are not expanded -/
theorem getL_any (B pb mb mc n nc : Nat) (p : PSt) (DC : DataW Value) (lv : Value) (k : ByteArray) (w : World) (h : LP B pb mb mc n nc p DC lv true w) (hk : k.size ≤ 2147483647) :
    Calls Tryd.prog 22 #[.pointer (some ⟨pb, 0, none⟩), .string k] w fun e w' => e = .returned (.tuple #[.string (rawOf p.D k), .bool (Maps.has p.D (keyL8 k))]) ∧ w' = w := by
  obtain ⟨c2, c3, _⟩ := seven_cells h.blk
  have HM := Lib.hid h.mp
  have hkm : k.size ≤ maxLen := by unfold maxLen; omega
  clear h
  go_enter Tryd.func22, Tryd.ntmps22
  go_wp2_with (at_lookup; refine wpList_lookup_own_ok _ rfl _ _ 34 rfl 9 9 lawS Tryd.underlying34 (plainElem Tryd.prog 9) (zeroS _) (.lit (.string [])) [] (plainElem_string Tryd.underlying9 (by unfold maxLen; decide)) mb n p.D rfl HM.out _ _ rfl (WideMaps.keyOf_string_mk Tryd.underlying9 hkm) ?_)
  intro v ps hv
  obtain ⟨s, rfl, hz, hs⟩ := plainElem_string_inv Tryd.underlying9 hv
  have HZ := Lib.hid (congrArg Prod.fst hz)
  clear hv hz
  generalize hg : Maps.has p.D (.string k.data.toList) = hb
  have HG := Lib.hid hg
  clear hg
  go_wp2
  go_ret2
  have e1 : rawOf p.D k = s := rawOf_of HZ.out
  have e2 : Maps.has p.D (keyL8 k) = hb := HG.out
  rw [e1, e2]
  exact ⟨rfl, rfl⟩
/-- a property as it is told -/
structure PropD where
  key : ByteArray
  raw : ByteArray
  val : ByteArray
  com : List ByteArray
def propV (d : PropD) (u : Value) : List Value := [.string d.key, .string d.raw, .string d.val, u]
/-- a row of properties -/
def PRow (B : Nat) (v : Value) (l : List PropD) (w : World) : Prop :=
  ∃ us : List Value, us.length = l.length ∧ w.ownsRow B 28 4 v l.length (List.zipWith propV l us).flatten ∧ ∀ (i : Nat) (d : PropD) (u : Value), l[i]? = some d → us[i]? = some u → w.ownsRow B 9 1 u d.com.length (d.com.map Value.string)
theorem PRow.below {B : Nat} {v : Value} {l : List PropD} {w w' : World} (h : PRow B v l w) (hb : Below w.heap.size w w') : PRow B v l w' := by
  obtain ⟨us, h1, h2, h3⟩ := h
  exact ⟨us, h1, row_keep h2 (fun g hg => hb.block g (row_lt h2 hg).2), fun i d u hd hu => row_keep (h3 i d u hd hu) (fun g hg => hb.block g (row_lt (h3 i d u hd hu) hg).2)⟩
theorem PRow.base {B B' : Nat} {v : Value} {l : List PropD} {w : World} (h : PRow B v l w) (hb : B' ≤ B) : PRow B' v l w := by
  obtain ⟨us, h1, h2, h3⟩ := h
  exact ⟨us, h1, row_base h2 hb, fun i d u hd hu => row_base (h3 i d u hd hu) hb⟩
theorem PRow.nil (B : Nat) (w : World) : PRow B (.slice none 0 0) [] w := ⟨[], rfl, ⟨rfl, .inl ⟨rfl, rfl⟩⟩, fun i d u h => by simp at h⟩
/-- one property more -/
theorem PRow.snoc {B : Nat} {v' : Value} {l : List PropD} {d : PropD} {u : Value} {w' : World} {us : List Value} (h1 : us.length = l.length) (h2 : w'.ownsRow B 28 4 v' (l.length + 1) ((List.zipWith propV l us).flatten ++ propV d u))
    (h3 : ∀ (i : Nat) (d : PropD) (u : Value), l[i]? = some d → us[i]? = some u → w'.ownsRow B 9 1 u d.com.length (d.com.map Value.string)) (h4 : w'.ownsRow B 9 1 u d.com.length (d.com.map Value.string)) : PRow B v' (l ++ [d]) w' := by
  refine ⟨us ++ [u], by simp [h1], ?_, fun i d' u' hd hu => ?_⟩
  · rw [List.zipWith_append h1.symm]
    simpa using h2
  · by_cases hi : i < l.length
    · rw [List.getElem?_append_left hi] at hd
      rw [List.getElem?_append_left (by omega)] at hu
      exact h3 i d' u' hd hu
    · rw [List.getElem?_append_right (by omega)] at hd
      rw [List.getElem?_append_right (by omega)] at hu
      rw [h1] at hu
      obtain ⟨hi0, rfl⟩ : i - l.length = 0 ∧ d = d' := by
        cases h9 : i - l.length with
        | zero => rw [h9] at hd; simp at hd; exact ⟨rfl, hd⟩
        | succ k => rw [h9] at hd; simp at hd
      rw [hi0] at hu
      simp at hu
      subst hu
      exact h4
end Go.Proofs.YtgmhigjhooihdaaDoor


set_option linter.unusedVariables false
namespace Go.Proofs.YtgmhigjhooihdaaDoor
open Go.RowKit Plain Go.Maps

def dataOf (p : PSt) (vf : ByteArray → ByteArray) (k : ByteArray) : PropD := ⟨k, rawOf p.D k, vf k, (p.cf k).getD []⟩
def PropsPost (l : List PropD) (w : World) (e : Ending) (w' : World) : Prop := ∃ v, e = .returned v ∧ PRow w.heap.size v l w' ∧ Below w.heap.size w w'
/-- what is asked of Get -/
def GetsTo (pb : Nat) (ks : List ByteArray) (vf : ByteArray → ByteArray) (w : World) : Prop :=
  ∀ k ∈ ks, ∀ wr, Below w.heap.size w wr → Calls Tryd.prog 22 #[.pointer (some ⟨pb, 0, none⟩), .string k] wr fun e w' => ∃ b : Bool, e = .returned (.tuple #[.string (vf k), .bool b]) ∧ Below wr.heap.size wr w'
theorem look_run {w : World} {b n : Nat} {D : DataW Unit} (h : MpS w b n D) {k : ByteArray} (hk : k.size ≤ maxLen) : (Instr.lookup 34 (.map (some b)) (.string k) false).run Tryd.prog w = .ok (.string (rawOf D k)) w := by
  obtain ⟨v, ps, hrun, hv⟩ := h.lookup (t := 34) (e := 9) lawS Tryd.underlying34 (zeroS w) (plainElem_string (H := Unit) Tryd.underlying9 (by unfold maxLen; decide)) (WideMaps.keyOf_string_mk Tryd.underlying9 hk)
  obtain ⟨c, rfl, hz, hs⟩ := plainElem_string_inv Tryd.underlying9 hv
  rw [hrun, rawOf_of (congrArg Prod.fst hz)]
/-- an append at a step of a region that draws -/
theorem step_app {ops : Array Oper} {o : Oper} {a : Act} {w : World} {K : Act → World → Prop} {Q : Exit → Act → World → Prop} {E : Prop} (hgd : o.guard = none) (s x : Operand) (t : TypeId)
    (ho : o.op = .call { callee := .builtin .append, args := #[s, x], argTypes := #[t, t] }) (v src : Value) (hs : a.eval s = v) (hx : a.eval x = src) (F : Value → World → Prop)
    (hrun : ∃ v' w', (Builtin.append_ #[t, t] o.type #[v, src]).run Tryd.prog w = .ok v' w' ∧ F v' w') (h : ∀ v' w', F v' w' → K (a.put o.dst v') w') :
    if Region.wanted o (yielded ops a.tmps) = true then Oper.wp Tryd.prog o a w K Q else E := by
  have hw : Region.wanted o (yielded ops a.tmps) = true := by simp [Region.wanted, hgd]
  rw [if_pos hw]
  obtain ⟨v', w', hr, hF⟩ := hrun
  unfold Oper.wp execOp
  simp only [ho, resolve, invoke, builtin, Sem.run_bind, Sem.run_pure, Result.andThen_ok, List.map_toArray, List.map_cons, List.map_nil, hs, hx, hr]
  exact h v' w' hF
/-- comments are copied onto an empty slice -/
theorem app_com {y : World} {base B S : Nat} {cv : Value} {com : List ByteArray} (ty : TypeId) (hS : y.heap[S]? = some (.cells #[] 9 (0, 0))) (hb : base ≤ S) (hc : y.ownsRow B 9 1 cv com.length (com.map Value.string)) (hL : com.length ≤ 10000000) :
    ∃ v' y', (Builtin.append_ #[26, 26] ty #[.slice (some ⟨S, 0, none⟩) 0 0, cv]).run Tryd.prog y = .ok v' y' ∧ ∃ g c, v' = .slice (some ⟨g, 0, none⟩) com.length c ∧ y'.ownsRow base 9 1 v' com.length (com.map Value.string) ∧ y.grownBy y' (some S) := by
  obtain ⟨i0, hi, hz0, hz1, hz2⟩ := info_parts infoStr
  have hlt := lt_of_block hS
  have hown : y.ownsRow base 9 1 (.slice (some ⟨S, 0, none⟩) 0 0) 0 [] := ⟨rfl, .inr ⟨S, 0, #[], rfl, hb, hS, Nat.le_refl _, by unfold maxLen; omega, rfl, rfl⟩⟩
  rcases hc.2 with ⟨rfl, h0⟩ | ⟨g, cap, cur, rfl, _⟩
  · have hc0 : com = [] := List.eq_nil_of_length_eq_zero h0
    subst hc0
    exact ⟨_, y, run_append_owned_none (P := Tryd.prog) (w := y) base 26 ty 9 i0 1 Tryd.underlying26 hi _ 0 [] hown, S, 0, rfl, hown, ⟨rfl, rfl, rfl, Nat.le_refl _, fun _ _ _ => rfl⟩⟩
  · obtain ⟨v', y', hr, h2, h3, h4, _⟩ := run_append_own_at (P := Tryd.prog) y base 26 ty 9 i0 (.string ⟨#[]⟩) 1 16 Tryd.underlying26 hi hz0 hz1 hz2 rfl (by decide) _ 0 [] hown ⟨g, 0, none⟩ com.length cap (com.map Value.string) (by simp) (hc.cells rfl) (by intro u hu; obtain ⟨x, _, rfl⟩ := List.mem_map.1 hu; rfl) (by unfold maxLen; omega) (by omega) (by omega)
    have h2' : y'.ownsRow base 9 1 v' com.length (com.map Value.string) := by simpa using h2
    rcases h2'.2 with ⟨h5, _⟩ | ⟨g', c', cur', h5, _⟩
    · have := (h4.1 h5).1
      cases this
    · exact ⟨v', y', hr, g', c', h5, h2', h3⟩
/-- a property is put behind a row -/
theorem app_prop {y : World} {base n Z : Nat} {v : Value} {xs : List Value} (ty : TypeId) (d : PropD) (u : Value) (hu : u.oneCell' = true) (hv : y.ownsRow base 28 4 v n xs) (hZ : y.heap[Z]? = some (.cells #[.string d.key, .string d.raw, .string d.val, u] 28 (0, 0))) (hn : n ≤ 10000000) (hb : base ≤ y.heap.size) :
    ∃ v' y', (Builtin.append_ #[22, 22] ty #[v, .slice (some ⟨Z, 0, none⟩) 1 1]).run Tryd.prog y = .ok v' y' ∧ y'.ownsRow base 28 4 v' (n + 1) (xs ++ propV d u) ∧ y.grownBy y' v.ownBlock := by
  obtain ⟨j0, hj, hy0, hy1, hy2⟩ := info_parts infoPr
  obtain ⟨v', y', hr, h2, h3, _, _⟩ := run_append_own_at (P := Tryd.prog) y base 22 ty 28 j0 (.agg #[.string ⟨#[]⟩, .string ⟨#[]⟩, .string ⟨#[]⟩, .slice none 0 0]) 4 72 Tryd.underlying22 hj hy0 hy1 hy2 rfl (by decide) v n xs hv ⟨Z, 0, none⟩ 1 1 (propV d u) rfl (by
      intro j x hx
      rw [add_at, Nat.zero_add]
      simp only [World.cell?, hZ]
      simpa [propV] using hx) (by
      intro x hx
      simp [propV] at hx
      rcases hx with rfl | rfl | rfl | rfl
      · rfl
      · rfl
      · rfl
      · exact hu) (by unfold maxLen; omega) (by omega) hb
  exact ⟨v', y', hr, h2, h3⟩
theorem one_row {w : World} {B sz n : Nat} {e : TypeId} {v : Value} {xs : List Value} (h : w.ownsRow B e sz v n xs) : v.oneCell' = true := by
  rcases h.2 with ⟨rfl, _⟩ | ⟨g, cap, cur, rfl, _⟩ <;> rfl
attribute [local go_sem ↓] Go.wp_at_zero Go.wp_at_succ
end Go.Proofs.YtgmhigjhooihdaaDoor




set_option linter.unusedVariables false
namespace Go.Proofs.YtgmhigjhooihdaaDoor
open Go.RowKit Plain Go.Maps

def ParPost (o : Option PSt) (w : World) (e : Ending) (w' : World) : Prop :=
  match o with
  | some p => ∃ pb mb mc n nc DC lv, e = .returned (.tuple #[.pointer (some ⟨pb, 0, none⟩), .nilIface]) ∧ PQ w.heap.size pb mb mc n nc p DC lv w' ∧ CRel w.heap.size DC p.cf lv (.slice none 0 0) w' ∧ Below w.heap.size w w'
  | none => ∃ P N : Nat, e = .returned (.tuple #[.pointer (some ⟨P, 0, none⟩), .iface 90 (.pointer (some ⟨N, 0, none⟩))]) ∧ Below w.heap.size w w'
/-- a frame with deferred calls, known by its size -/
theorem frame_litD (n : Nat) (a : Act) (ds : List Deferred) (h : a.tmps.size = n ∧ a.defers = ds) : ∃ f : Nat → Value, (∀ i, Sl a i = f i) ∧ a = ⟨((List.range n).map f).toArray, ds⟩ := by
  obtain ⟨h1, h2⟩ := h
  refine ⟨Sl a, fun _ => rfl, ?_⟩
  have e := list_lit a.tmps.toList
  rw [Array.length_toList, h1] at e
  cases a with
  | mk t d =>
    subst h2
    congr 1
    apply Array.toList_inj.1
    exact e.symm
theorem litD88 (a : Act) (ds : List Deferred) (h : a.tmps.size = 88 ∧ a.defers = ds) : ∃ f : Nat → Value, (∀ i, Sl a i = f i) ∧ a = ⟨#[f 0, f 1, f 2, f 3, f 4, f 5, f 6, f 7, f 8, f 9, f 10, f 11, f 12, f 13, f 14, f 15, f 16, f 17, f 18, f 19, f 20, f 21, f 22, f 23, f 24, f 25, f 26, f 27, f 28, f 29, f 30, f 31, f 32, f 33, f 34, f 35, f 36, f 37, f 38, f 39, f 40, f 41, f 42, f 43, f 44, f 45, f 46, f 47, f 48, f 49, f 50, f 51, f 52, f 53, f 54, f 55, f 56, f 57, f 58, f 59, f 60, f 61, f 62, f 63, f 64, f 65, f 66, f 67, f 68, f 69, f 70, f 71, f 72, f 73, f 74, f 75, f 76, f 77, f 78, f 79, f 80, f 81, f 82, f 83, f 84, f 85, f 86, f 87], ds⟩ := frame_litD 88 a ds h
end Go.Proofs.YtgmhigjhooihdaaDoor


set_option linter.unusedVariables false
namespace Go.Proofs.YtgmhigjhooihdaaDoor
open Go.RowKit Plain Go.Maps

/-- a text's bytes as numbers -/
def numsB (s : ByteArray) : List Int := s.data.toList.map fun b => (b.toNat : Int)
theorem numsB_len (s : ByteArray) : (numsB s).length = s.size := by unfold numsB; rw [List.length_map, ← Lib.size_eq]
theorem bytesOf_numsB (s : ByteArray) : Lib.bytesOf (numsB s) = s.data.toList := by
  unfold Lib.bytesOf numsB
  rw [List.map_map]
  conv => rhs; rw [← List.map_id s.data.toList]
  refine List.map_congr_left fun b _ => ?_
  simp
/-- the mark at a text's front -/
def bomB (s : ByteArray) : Bool := Lib.hasPrefix s.data.toList [239, 187, 191]
def bomK (s : ByteArray) : Nat := if bomB s then 3 else 0
/-- a text without the mark -/
def unbom (s : ByteArray) : ByteArray := ⟨(s.data.toList.drop (bomK s)).toArray⟩
theorem bomK_le (s : ByteArray) : bomK s ≤ s.size := by
  unfold bomK
  split
  · rename_i h
    unfold bomB Lib.hasPrefix at h
    have := (List.isPrefixOf_iff_prefix.1 h).length_le
    rw [Lib.size_eq]
    simpa using this
  · exact Nat.zero_le _
theorem unbom_size (s : ByteArray) : (unbom s).size ≤ s.size := by
  rw [Lib.size_eq, Lib.size_eq s]
  unfold unbom
  simp
theorem unbom_no {s : ByteArray} (h : bomB s = false) : unbom s = s := by
  unfold unbom bomK
  rw [h]
  simp
theorem strOfNums_drop (s : ByteArray) (k : Nat) : strOfNums ((numsB s).drop k) = ⟨(s.data.toList.drop k).toArray⟩ := by
  have e : ((numsB s).drop k).map (fun n => UInt8.ofNat n.toNat) = s.data.toList.drop k := by
    rw [List.map_drop]
    have := bytesOf_numsB s
    unfold Lib.bytesOf at this
    rw [this]
  unfold strOfNums
  rw [e]
/-- what TrimPrefix hands back -/
theorem trim_bom (s : ByteArray) (b c : Nat) : ∃ o', Lib.trimPrefixV (some ⟨b, 0, none⟩) s.size c (numsB s) [239, 187, 191] = .slice (some ⟨b, o', none⟩) (s.size - bomK s) (c - bomK s) ∧ (bomK s < s.size → s.size ≤ c → o' = bomK s) := by
  unfold Lib.trimPrefixV Lib.bytesTrimPrefix
  have e : Lib.hasPrefix (Lib.bytesOf (numsB s)) (Lib.bytesOf [239, 187, 191]) = bomB s := by rw [bytesOf_numsB]; rfl
  dsimp only
  rw [e]
  unfold bomK
  cases hb : bomB s with
  | false => exact ⟨0, rfl, fun _ _ => rfl⟩
  | true =>
    simp only [if_true]
    unfold Lib.sliceFrom
    by_cases hc : c = 3
    · refine ⟨0, by simp [hc], fun h1 h2 => by omega⟩
    · refine ⟨3, by simp [hc], fun _ _ => rfl⟩
/-- what loading gives: nothing and an error, or properties in memory -/
def LdPost (o : Option PSt) (w : World) (e : Ending) (w' : World) : Prop :=
  match o with
  | some p => ∃ pb mb mc n nc DC lv, e = .returned (.tuple #[.pointer (some ⟨pb, 0, none⟩), .nilIface]) ∧ LP w.heap.size pb mb mc n nc p DC lv true w' ∧ Below w.heap.size w w'
  | none => ∃ N : Nat, e = .returned (.tuple #[.pointer none, .iface 90 (.pointer (some ⟨N, 0, none⟩))]) ∧ Below w.heap.size w w'
theorem LP.base {B B' pb mb mc n nc : Nat} {p : PSt} {DC : DataW Value} {lv : Value} {dis : Bool} {w : World} (h : LP B pb mb mc n nc p DC lv dis w) (hb : B' ≤ B) : LP B' pb mb mc n nc p DC lv dis w :=
  ⟨h.blk, h.mp, h.cp, row_base h.row hb, fun k => ⟨(h.cr k).1, fun l hl => by
    obtain ⟨v, v1, v2, v3, v4⟩ := (h.cr k).2 l hl
    exact ⟨v, v1, v2, row_base v3 hb, v4⟩⟩, Nat.le_trans hb h.lo.1, Nat.le_trans hb h.lo.2.1, Nat.le_trans hb h.lo.2.2⟩
def LpPost (o : Option PSt) (w : World) (e : Ending) (w' : World) : Prop :=
  Below w.heap.size w w' ∧ match o with
  | none => e = .returned (.tuple #[.slice none 0 0, .bool false])
  | some p => ∃ v, e = .returned (.tuple #[v, .bool true]) ∧ PRow w.heap.size v (p.ks.map (dataOf p (rawOf p.D))) w'
theorem numsB_cell (s : ByteArray) (w : World) (i : Nat) (hi : i < s.size) : (Lib.bytesWorld w 5 s).cell? ⟨w.heap.size, i, none⟩ = some (.int .u8 ((numsB s).getD i 0)) := by
  rw [Lib.bytesWorld_cell _ _ _ _ hi]
  unfold numsB
  have hi' : i < s.data.toList.length := by rw [← Lib.size_eq]; exact hi
  simp only [List.getD, List.getElem?_map, List.getElem?_eq_getElem hi', Option.map_some, Option.getD_some]
end Go.Proofs.YtgmhigjhooihdaaDoor


set_option linter.unusedVariables false
namespace Go.Proofs.YtgmhigjhooihdaaDoor
open Go.RowKit Plain Go.Maps

/-- small runes -/
def smR (R : Nat) : Bool := decide (R ≤ 65535) && !(decide (R < 32) && R != 9 && R != 10 && R != 13 && R != 12) && !(decide (127 ≤ R) && decide (R < 160)) && R != 65279 && R != 65533
def rn (s : ByteArray) : List Nat := rnsOf s.data.toList
structure OKs (s : ByteArray) : Prop where
  vd : Lib.validD s.data.toList = true
  sm : ∀ R ∈ rn s, smR R = true
structure OKp (d : PropD) : Prop where
  k0 : d.key.size ≠ 0
  ky : OKs d.key
  rw : OKs d.raw
  cm : ∀ c ∈ d.com, OKs c ∧ c.size ≠ 0 ∧ (∀ y r, c.data.toList = y :: r → y ≠ 32 ∧ y ≠ 9 ∧ y ≠ 12) ∧ ∀ y ∈ c.data.toList, 32 ≤ y.toNat
/-- a key does not begin as a comment does -/
def NoC (d : PropD) : Prop := ∀ y r, d.key.data.toList = y :: r → y ≠ 35 ∧ y ≠ 33
theorem OKs.gr {s : ByteArray} (h : OKs s) : ∀ R ∈ rn s, GR R := gr_rns h.vd
theorem OKs.text {s : ByteArray} (h : OKs s) : textOf (rn s) = s := textOf_rns h.vd
theorem OKs.flat {s : ByteArray} (h : OKs s) : ((rn s).map fun (R : Nat) => Lib.encodeRune (R : Int)).flatten = s.data.toList := rns_flat h.vd
theorem rn_nil {s : ByteArray} (h : s.size ≠ 0) : rn s ≠ [] := by
  intro e
  unfold rn rnsOf at e
  have e2 := List.map_eq_nil_iff.1 e
  rw [segs_eq_nil] at e2
  apply h
  rw [Lib.size_eq, e2]
  rfl
theorem asc_rune {R : Nat} (h : R < 128) : Lib.encodeRune (R : Int) = [UInt8.ofNat R] := by
  have := enc_asc (UInt8.ofNat R) (by simp; omega)
  have e : (UInt8.ofNat R).toNat = R := by simp; omega
  rw [e] at this
  exact this
theorem head_byte {s : ByteArray} (h : OKs s) {R : Nat} (hR : (rn s).head? = some R) (hlt : R < 128) : ∃ r, s.data.toList = UInt8.ofNat R :: r := by
  have hf := h.flat
  cases hl : rn s with
  | nil => rw [hl] at hR; cases hR
  | cons x xs =>
    rw [hl] at hR hf
    injection hR with hR
    subst hR
    rw [List.map_cons, List.flatten_cons, asc_rune hlt] at hf
    exact ⟨_, hf.symm⟩
theorem all_byte {s : ByteArray} (h : OKs s) {R : Nat} (hR : R ∈ rn s) (hlt : R < 128) : UInt8.ofNat R ∈ s.data.toList := by
  rw [← h.flat]
  refine List.mem_flatten.2 ⟨Lib.encodeRune (R : Int), List.mem_map.2 ⟨R, hR, rfl⟩, ?_⟩
  rw [asc_rune hlt]
  exact List.mem_cons_self
/-- a line -/
def lineT (S : List UInt8) (d : PropD) : List UInt8 := keyT (rn d.key) ++ (S ++ (valT (rn d.raw) ++ [10]))
def comT (c : ByteArray) : List UInt8 := 35 :: 32 :: (c.data.toList ++ [10])
def notesT (f : Bool) (d : PropD) : List UInt8 := if d.com = [] then [] else (if f then [] else [10]) ++ (d.com.map comT).flatten
def propT (S : List UInt8) (f : Bool) (d : PropD) : List UInt8 := notesT f d ++ lineT S d
def allT (S : List UInt8) : Bool → List PropD → List UInt8
  | _, [] => []
  | f, d :: l => propT S f d ++ allT S false l
def addP (p : PSt) (d : PropD) : PSt := putV (addC (addK p d.key) d.key d.com) d.key d.raw
theorem parL_com {cm : List ByteArray} {p : PSt} {i : Nat} {t : ByteArray} {r : List LI} : parL (⟨4, i, t⟩ :: r) cm p = parL r (cm ++ [t]) p := by
  conv => lhs; unfold parL
  simp
theorem parL_kv {cm : List ByteArray} {p : PSt} {i j : Nat} {k v : ByteArray} {r : List LI} : parL (⟨2, i, k⟩ :: ⟨3, j, v⟩ :: r) cm p = parL r [] (putV (addC (addK p k) k cm) k v) := by
  rw [parL]
  simp
theorem parL_eof {cm : List ByteArray} {p : PSt} {i : Nat} {t : ByteArray} {r : List LI} : parL (⟨1, i, t⟩ :: r) cm p = some p := by
  unfold parL
  simp
theorem coms_lex (s : ByteArray) (rest : List UInt8) : ∀ (cs : List ByteArray) (p : Nat), (∀ c ∈ cs, OKs c ∧ c.size ≠ 0 ∧ (∀ y r, c.data.toList = y :: r → y ≠ 32 ∧ y ≠ 9 ∧ y ≠ 12) ∧ ∀ y ∈ c.data.toList, 32 ≤ y.toNat) → atL s p ((cs.map comT).flatten ++ rest) →
    ∃ items q, LexTo s p items q ∧ atL s q rest ∧ ∀ r cm p0, parL (items ++ r) cm p0 = parL r (cm ++ cs) p0 := by
  intro cs
  induction cs with
  | nil => intro p hc h; exact ⟨[], p, LexTo.refl s p, h, fun r cm p0 => by simp⟩
  | cons c cs ih =>
    intro p hc h
    obtain ⟨h1, h2, h3, h4⟩ := hc c List.mem_cons_self
    have e : ((c :: cs).map comT).flatten = comT c ++ (cs.map comT).flatten := rfl
    have h' : atL s p (35 :: 32 :: (((rn c).map fun (R : Nat) => Lib.encodeRune (R : Int)).flatten ++ 10 :: ((cs.map comT).flatten ++ rest))) := by
      rw [h1.flat]
      rw [e] at h
      simpa [comT] using h
    obtain ⟨k1, k2⟩ := lexTo_com s p (rn c) _ (rn_nil h2) (fun R hR => ⟨h1.gr R hR, by
      unfold eolR
      rcases Nat.lt_or_ge R 32 with hlt | hge
      · have := h4 _ (all_byte h1 hR (by omega))
        have e9 : (UInt8.ofNat R).toNat = R := by simp; omega
        omega
      · simp; omega⟩) (fun R hR => by
      unfold wsR
      by_cases hlt : R < 128
      · obtain ⟨r, hr⟩ := head_byte h1 hR hlt
        obtain ⟨a1, a2, a3⟩ := h3 _ _ hr
        have e9 : (UInt8.ofNat R).toNat = R := by simp; omega
        have b1 : R ≠ 32 := fun e => a1 (by rw [e]; rfl)
        have b2 : R ≠ 9 := fun e => a2 (by rw [e]; rfl)
        have b3 : R ≠ 12 := fun e => a3 (by rw [e]; rfl)
        simp; omega
      · simp; omega) h'
    obtain ⟨items, q, g1, g2, g3⟩ := ih _ (fun x hx => hc x (List.mem_cons_of_mem _ hx)) k2
    refine ⟨_, q, k1.trans g1, g2, fun r cm p0 => ?_⟩
    rw [List.append_assoc, List.singleton_append, parL_com, g3, h1.text, List.append_assoc]
    rfl
theorem prop_lex (s : ByteArray) (S : List UInt8) (hS : isSep S) (f : Bool) (d : PropD) (hd : OKp d) (hn : NoC d) (rest : List UInt8) (p : Nat) (h : atL s p (propT S f d ++ rest)) :
    ∃ items q, LexTo s p items q ∧ atL s q rest ∧ ∀ r p0, parL (items ++ r) [] p0 = parL r [] (addP p0 d) := by
  have hnotes : ∃ items q, LexTo s p items q ∧ atL s q (lineT S d ++ rest) ∧ ∀ r p0, parL (items ++ r) [] p0 = parL r d.com p0 := by
    unfold propT notesT at h
    by_cases hc : d.com = []
    · rw [if_pos hc] at h
      exact ⟨[], p, LexTo.refl s p, h, fun r p0 => by rw [hc]; rfl⟩
    · rw [if_neg hc] at h
      cases f with
      | true =>
        simp only [if_true, List.nil_append, List.append_assoc] at h
        obtain ⟨items, q, g1, g2, g3⟩ := coms_lex s _ d.com p hd.cm h
        exact ⟨items, q, g1, g2, fun r p0 => by rw [g3]; rfl⟩
      | false =>
        simp only [Bool.false_eq_true, if_false, List.append_assoc, List.singleton_append] at h
        obtain ⟨items, q, g1, g2, g3⟩ := coms_lex s _ d.com (p + 1) hd.cm (atL_next h)
        exact ⟨[] ++ items, q, (lexTo_nl s p _ h).trans g1, g2, fun r p0 => by rw [List.nil_append, g3]; rfl⟩
  obtain ⟨i1, q1, g1, g2, g3⟩ := hnotes
  have h2 : atL s q1 (keyT (rn d.key) ++ (S ++ (valT (rn d.raw) ++ 10 :: rest))) := by
    unfold lineT at g2
    simpa using g2
  obtain ⟨P, k1, k2⟩ := lexTo_kv s q1 (rn d.key) (rn d.raw) S rest hS (rn_nil hd.k0) hd.ky.gr hd.rw.gr (fun R hR => by
    by_cases hlt : R < 128
    · obtain ⟨r, hr⟩ := head_byte hd.ky hR hlt
      obtain ⟨a1, a2⟩ := hn _ _ hr
      exact ⟨fun e => a1 (by rw [e]; rfl), fun e => a2 (by rw [e]; rfl)⟩
    · omega) h2
  refine ⟨_, _, g1.trans k1, k2, fun r p0 => ?_⟩
  rw [List.append_assoc, g3]
  show parL (⟨2, _, _⟩ :: ⟨3, _, _⟩ :: r) _ _ = _
  rw [parL_kv, hd.ky.text, hd.rw.text]
  rfl
theorem all_lex (s : ByteArray) (S : List UInt8) (hS : isSep S) : ∀ (l : List PropD) (f : Bool) (p : Nat), (∀ d ∈ l, OKp d ∧ NoC d) → atL s p (allT S f l) →
    ∃ items q, LexTo s p items q ∧ atL s q [] ∧ ∀ r p0, parL (items ++ r) [] p0 = parL r [] (l.foldl addP p0) := by
  intro l
  induction l with
  | nil => intro f p hd h; exact ⟨[], p, LexTo.refl s p, h, fun r p0 => rfl⟩
  | cons d l ih =>
    intro f p hd h
    obtain ⟨h1, h2⟩ := hd d List.mem_cons_self
    obtain ⟨i1, q1, g1, g2, g3⟩ := prop_lex s S hS f d h1 h2 (allT S false l) p h
    obtain ⟨i2, q2, k1, k2, k3⟩ := ih false q1 (fun x hx => hd x (List.mem_cons_of_mem _ hx)) g2
    exact ⟨_, q2, g1.trans k1, k2, fun r p0 => by rw [List.append_assoc, g3, k3]; rfl⟩
/-- the text is parsed -/
theorem back_par (s : ByteArray) (S : List UInt8) (hS : isSep S) (l : List PropD) (hd : ∀ d ∈ l, OKp d ∧ NoC d) (hs : s.data.toList = allT S true l) : parL (lexL s) [] pst0 = some (l.foldl addP pst0) := by
  obtain ⟨items, q, g1, g2, g3⟩ := all_lex s S hS l true 0 hd (by unfold atL; rw [List.drop_zero]; exact hs)
  unfold lexL
  rw [lexTo_end s 0 q items g1 g2 _ (by show 4 * (s.size - 0) + 3 < _; omega), g3, parL_eof]
/-- what is told of the properties then -/
theorem addP_ks (p : PSt) (d : PropD) : (addP p d).ks = if Maps.has p.D (keyL8 d.key) = true then p.ks else p.ks ++ [d.key] := by
  unfold addP putV addC addK
  split <;> split <;> rfl
theorem addP_D (p : PSt) (d : PropD) : (addP p d).D = p.D.put (keyL8 d.key) (.lit (.string d.raw.data.toList)) := by
  unfold addP putV addC addK
  split <;> split <;> rfl
theorem addP_cf (p : PSt) (d : PropD) : (addP p d).cf = if d.com = [] then p.cf else updC p.cf d.key d.com := by
  unfold addP putV addC addK
  split <;> split <;> rfl
theorem fold_facts : ∀ (l : List PropD) (p : PSt), IsMap p.D → (l.map (·.key)).Nodup → (∀ d ∈ l, Maps.has p.D (keyL8 d.key) = false ∧ p.cf d.key = none) →
    (l.foldl addP p).ks = p.ks ++ l.map (·.key) ∧ (∀ k, (∀ d ∈ l, d.key ≠ k) → rawOf (l.foldl addP p).D k = rawOf p.D k ∧ (l.foldl addP p).cf k = p.cf k) ∧ ∀ d ∈ l, rawOf (l.foldl addP p).D d.key = d.raw ∧ ((l.foldl addP p).cf d.key).getD [] = d.com := by
  intro l
  induction l with
  | nil => intro p hD hn hf; exact ⟨by simp, fun k hk => ⟨rfl, rfl⟩, fun d hd => by cases hd⟩
  | cons d l ih =>
    intro p hD hn hf
    rw [List.map_cons, List.nodup_cons] at hn
    obtain ⟨f1, f2⟩ := hf d List.mem_cons_self
    have hne : ∀ x ∈ l, x.key ≠ d.key := fun x hx e => hn.1 (by rw [← e]; exact List.mem_map.2 ⟨x, hx, rfl⟩)
    have hkne : ∀ x ∈ l, keyL8 x.key ≠ keyL8 d.key := fun x hx e => hne x hx (keyL8_inj e)
    obtain ⟨a1, a2, a3⟩ := ih (addP p d) (by rw [addP_D]; exact isMap_put hD _ _) hn.2 (fun x hx => by
      obtain ⟨b1, b2⟩ := hf x (List.mem_cons_of_mem _ hx)
      refine ⟨?_, ?_⟩
      · rw [addP_D, has_put_other (hkne x hx)]; exact b1
      · rw [addP_cf]
        split
        · exact b2
        · unfold updC; rw [if_neg (hne x hx)]; exact b2)
    rw [List.foldl_cons]
    refine ⟨?_, fun k hk => ?_, fun x hx => ?_⟩
    · rw [a1, addP_ks, f1, if_neg (by simp)]
      simp
    · obtain ⟨c1, c2⟩ := a2 k (fun x hx => hk x (List.mem_cons_of_mem _ hx))
      have hdk := hk d List.mem_cons_self
      refine ⟨?_, ?_⟩
      · rw [c1, addP_D, rawOf_put hD, if_neg hdk]
      · rw [c2, addP_cf]
        split
        · rfl
        · unfold updC; rw [if_neg (fun e => hdk e.symm)]
    · rcases List.mem_cons.1 hx with rfl | hx
      · obtain ⟨c1, c2⟩ := a2 x.key (fun y hy => hne y hy)
        refine ⟨?_, ?_⟩
        · rw [c1, addP_D, rawOf_put hD, if_pos rfl]
        · rw [c2, addP_cf]
          split
          · rename_i hc; rw [f2, hc]; rfl
          · unfold updC; rw [if_pos rfl]; rfl
      · exact a3 x hx
/-- what was written comes back -/
theorem back_like (l : List PropD) (hn : (l.map (·.key)).Nodup) (vf : ByteArray → ByteArray) : (((l.foldl addP pst0).ks).map (dataOf (l.foldl addP pst0) vf)).length = l.length ∧ ∀ (i : Nat) a b, (((l.foldl addP pst0).ks).map (dataOf (l.foldl addP pst0) vf))[i]? = some a → l[i]? = some b → a.key = b.key ∧ a.raw = b.raw ∧ a.com = b.com := by
  obtain ⟨a1, a2, a3⟩ := fold_facts l pst0 isMap_empty hn (fun d hd => ⟨rfl, rfl⟩)
  have e0 : (l.foldl addP pst0).ks = l.map (·.key) := a1
  refine ⟨by rw [e0]; simp, fun i a b ha hb => ?_⟩
  rw [e0, List.map_map, List.getElem?_map, hb] at ha
  injection ha with ha
  subst ha
  obtain ⟨c1, c2⟩ := a3 b (List.mem_of_getElem? hb)
  exact ⟨rfl, c1, c2⟩
/-- no mark at the front -/
theorem back_bom (s : ByteArray) (S : List UInt8) (l : List PropD) (hd : ∀ d ∈ l, OKp d) (hs : s.data.toList = allT S true l) : bomB s = false := by
  have key : ∀ y r, s.data.toList = y :: r → y.toNat < 128 → bomB s = false := fun y r h hy => by
    unfold bomB Lib.hasPrefix
    rw [h]
    have : ((239 : UInt8) == y) = false := beq_eq_false_iff_ne.2 (fun e => by subst e; exact absurd hy (by decide))
    simp only [List.isPrefixOf, this, Bool.false_and]
  cases l with
  | nil =>
    unfold bomB Lib.hasPrefix
    rw [hs]
    rfl
  | cons d l =>
    have hok := hd d List.mem_cons_self
    have e : allT S true (d :: l) = (notesT true d ++ lineT S d) ++ allT S false l := rfl
    rw [e] at hs
    unfold notesT at hs
    by_cases hc : d.com = []
    · rw [if_pos hc, List.nil_append] at hs
      unfold lineT at hs
      cases hk : rn d.key with
      | nil => exact absurd hk (rn_nil hok.k0)
      | cons R ks =>
        have hsm := hok.ky.sm R (by rw [hk]; exact List.mem_cons_self)
        have hg := hok.ky.gr R (by rw [hk]; exact List.mem_cons_self)
        rw [hk] at hs
        have e2 : keyT (R :: ks) = wrK R ++ keyT ks := rfl
        rw [e2] at hs
        have hw : (∃ r, wrK R = 92 :: r) ∨ wrK R = Lib.encodeRune (R : Int) := by
          unfold wrK
          repeat' split
          all_goals first | exact .inl ⟨_, rfl⟩ | exact .inr rfl
        rcases hw with ⟨r, hr⟩ | hr
        · rw [hr] at hs
          exact key 92 _ (by rw [hs]; try rfl) (by decide)
        · rw [hr] at hs
          cases hb : bomB s with
          | false => rfl
          | true =>
            exfalso
            unfold bomB Lib.hasPrefix at hb
            obtain ⟨t, ht⟩ := List.isPrefixOf_iff_prefix.1 hb
            rw [hs, List.append_assoc, List.append_assoc] at ht
            have hd1 := good_append (Lib.encodeRune (R : Int)) (keyT ks ++ (S ++ (valT (rn d.raw) ++ [10]) ++ allT S false l)) hg.1
            have hg2 : Plain.Good [239, 187, 191] := by
              refine ⟨by simp, ?_, ?_⟩ <;> decide +kernel
            have hd2 := good_append [239, 187, 191] t hg2
            have hR : runeOf (Lib.encodeRune (R : Int)) = 65279 := by
              unfold runeOf
              rw [← hd1]
              have e5 : Lib.encodeRune (R : Int) ++ (keyT ks ++ (S ++ (valT (rn d.raw) ++ [10]) ++ allT S false l)) = [239, 187, 191] ++ t := by rw [ht]
              rw [e5, hd2]
              decide +kernel
            rw [hg.2] at hR
            subst hR
            exact absurd hsm (by decide)
    · rw [if_neg hc] at hs
      cases hcc : d.com with
      | nil => exact absurd hcc hc
      | cons c cs =>
        rw [hcc] at hs
        exact key 35 _ (by rw [hs]; try rfl) (by decide)
end Go.Proofs.YtgmhigjhooihdaaDoor

