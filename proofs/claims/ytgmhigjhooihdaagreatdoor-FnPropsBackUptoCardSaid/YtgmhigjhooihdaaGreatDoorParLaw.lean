/- The properties' parser as a plain function of the items. -/
import Derived.Test.YtgmhigjhooihdaaGreatDoorLexLaw
import Derived.Test.YtgmhigjhooihdaaGreatDoorTMem
set_option linter.unusedVariables false
namespace Go.Proofs.YtgmhigjhooihdaaGreatDoor
open Go.RowKit Plain Go.Maps

/-- a key as a map's key -/
def keyL8 (k : ByteArray) : Lit := .string k.data.toList
/-- the properties: keys in their order, the map of raw values, the comments of keys -/
structure PSt where
  ks : List ByteArray
  D : DataW Unit
  cf : ByteArray → Option (List ByteArray)
def pst0 : PSt := ⟨[], .map [], fun _ => none⟩
def updC (cf : ByteArray → Option (List ByteArray)) (k : ByteArray) (l : List ByteArray) : ByteArray → Option (List ByteArray) := fun x => if x = k then some l else cf x
def addK (p : PSt) (k : ByteArray) : PSt := if Maps.has p.D (keyL8 k) = true then p else { p with ks := p.ks ++ [k] }
def addC (p : PSt) (k : ByteArray) (cm : List ByteArray) : PSt := if cm = [] then p else { p with cf := updC p.cf k cm }
def putV (p : PSt) (k v : ByteArray) : PSt := { p with D := p.D.put (keyL8 k) (.lit (.string v.data.toList)) }
/-- none: an error -/
def parL : List LI → List ByteArray → PSt → Option PSt
  | [], _, _ => none
  | x :: rest, cm, p =>
    if x.kind = 1 then some p
    else if x.kind = 4 then parL rest (cm ++ [x.text]) p
    else if x.kind = 2 then
      match rest with
      | [] => none
      | y :: rest2 =>
        if y.kind = 1 then some (putV (addC (addK p x.text) x.text cm) x.text emptyB)
        else if y.kind = 3 then parL rest2 [] (putV (addC (addK p x.text) x.text cm) x.text y.text)
        else none
    else none
/-- items: the end or an error stands last, and there alone -/
def WfI : List LI → Prop
  | [] => False
  | [x] => x.kind < 2
  | x :: y :: r => 2 ≤ x.kind ∧ x.kind ≤ 4 ∧ WfI (y :: r)
theorem wfI_cons {x : LI} {l : List LI} (h1 : 2 ≤ x.kind) (h2 : x.kind ≤ 4) (h : WfI l) : WfI (x :: l) := by
  cases l with
  | nil => exact h.elim
  | cons y r => exact ⟨h1, h2, h⟩
theorem wfI_lexN (s : ByteArray) : ∀ (f : Nat) (nx : NX) (p : Nat), p ≤ s.size → muN s nx p < f → WfI (lexN s f nx p) := by
  intro f
  induction f with
  | zero => intro nx p hp h; omega
  | succ f ih =>
    intro nx p hp hmu
    unfold lexN
    have hm := lexS_mu s nx p hp
    cases hr : (lexS s nx p).2 with
    | some x =>
      have hx := hm x hr
      have h2 := ih x.1 x.2 hx.2.1 (by omega)
      have hall : ∀ y ∈ (lexS s nx p).1, 2 ≤ y.kind ∧ y.kind ≤ 4 := by
        intro y hy
        unfold lexS at hr hy
        cases nx with
        | before =>
          dsimp only at hr hy
          (repeat' split at hy) <;> simp_all
        | comment =>
          dsimp only at hr hy
          split at hy <;> simp_all
        | key =>
          dsimp only at hr hy
          split at hy
          · simp_all
          · rename_i acc q b hk
            rw [hk] at hr
            dsimp only at hr
            cases b with
            | true => simp at hr
            | false =>
              simp at hy
              by_cases ha : acc = []
              · simp [ha] at hy
              · simp [ha] at hy
                subst hy
                exact ⟨by show 2 ≤ 2; omega, by show 2 ≤ 4; omega⟩
        | bval => simp_all
        | val =>
          dsimp only at hr hy
          split at hy
          · simp_all
          · rename_i acc q b hk
            rw [hk] at hr
            dsimp only at hr
            cases b with
            | true => simp at hr
            | false =>
              simp at hy
              subst hy
              exact ⟨by show 2 ≤ 3; omega, by show 3 ≤ 4; omega⟩
      dsimp only
      clear hr
      generalize (lexS s nx p).1 = l at hall
      induction l with
      | nil => exact h2
      | cons y l ihl => exact wfI_cons (hall y List.mem_cons_self).1 (hall y List.mem_cons_self).2 (ihl (fun z hz => hall z (List.mem_cons_of_mem _ hz)))
    | none =>
      dsimp only
      rw [List.append_nil]
      unfold lexS at hr ⊢
      cases nx with
      | before =>
        dsimp only at hr ⊢
        by_cases hlt : p < s.size
        · rw [if_pos hlt] at hr
          (repeat' split at hr) <;> simp at hr
        · rw [if_neg hlt]
          show (1 : Nat) < 2
          omega
      | comment =>
        dsimp only at hr ⊢
        split at hr
        · simp at hr
        · rename_i acc q hc
          show (1 : Nat) < 2
          omega
      | key =>
        dsimp only at hr ⊢
        split at hr
        · show (0 : Nat) < 2
          omega
        · rename_i acc q b hk
          cases b with
          | true => by_cases ha : acc = [] <;> simp [ha, WfI]
          | false => simp at hr
      | bval => simp at hr
      | val =>
        dsimp only at hr ⊢
        split at hr
        · show (0 : Nat) < 2
          omega
        · rename_i acc q b hk
          cases b with
          | true => simp [WfI]
          | false => simp at hr
theorem wfI_lexL (s : ByteArray) : WfI (lexL s) := wfI_lexN s _ .before 0 (Nat.zero_le _) (by show 4 * (s.size - 0) + 3 < _; omega)
end Go.Proofs.YtgmhigjhooihdaaGreatDoor
