/- Squeezing, as plain data: by characters' bytes, and by characters. -/
import Derived.Test.YtdgaehkfdaacjaaDoorPatDelS
import Derived.Test.YtdgaehkfdaacjaaDoorRunesText
set_option linter.unusedVariables false
namespace Go.Proofs.YtdgaehkfdaacjaaDoor
open Plain

/-- a text's characters without those that are the one ahead, if they match -/
def sq (m : List UInt8 → Bool) : List UInt8 → List (List UInt8) → List UInt8
  | _, [] => []
  | last, c :: cs => if last ≠ [] ∧ c = last ∧ m c = true then sq m last cs else c ++ sq m c cs
theorem sq_drop {m : List UInt8 → Bool} {last c : List UInt8} (cs : List (List UInt8)) (h1 : last ≠ []) (h2 : c = last) (h3 : m c = true) : sq m last (c :: cs) = sq m last cs := by
  rw [sq, if_pos ⟨h1, h2, h3⟩]
theorem sq_keep {m : List UInt8 → Bool} {last c : List UInt8} (cs : List (List UInt8)) (h : ¬ (last ≠ [] ∧ c = last ∧ m c = true)) : sq m last (c :: cs) = c ++ sq m c cs := by
  rw [sq, if_neg h]
/-- whether a character matches -/
def mB (P : List UInt8) (c : List UInt8) : Bool := if P = [] then true else (trR (ntrL P []).1 (flL P []) (runeOf c)).2.1
def sqS (P s : ByteArray) : ByteArray := ⟨(sq (mB P.data.toList) [] (segs s.data.toList)).toArray⟩
/-- the same by characters -/
def sqR (q : Nat → Bool) : Option Nat → List Nat → List Nat
  | _, [] => []
  | prev, r :: rs => if prev = some r ∧ q r = true then sqR q (some r) rs else r :: sqR q (some r) rs
theorem good_inj {a b : List UInt8} (ha : Plain.Good a) (hb : Plain.Good b) (h : runeOf a = runeOf b) : a = b := by
  rw [← encode_runeOf a ha, ← encode_runeOf b hb, h]
theorem sq_runes (m : List UInt8 → Bool) (q : Nat → Bool) : ∀ (cs : List (List UInt8)) (last : List UInt8), (∀ c ∈ cs, Plain.Good c) → (∀ c ∈ cs, m c = q (runeOf c)) → (last = [] ∨ Plain.Good last) →
    sq m last cs = ((sqR q (if last = [] then none else some (runeOf last)) (cs.map runeOf)).map fun (n : Nat) => Lib.encodeRune (n : Int)).flatten
  | [], last, hg, hm, hl => by simp [sq, sqR]
  | c :: cs, last, hg, hm, hl => by
    have hc := hg c List.mem_cons_self
    have hmc := hm c List.mem_cons_self
    have hg2 : ∀ x ∈ cs, Plain.Good x := fun x hx => hg x (List.mem_cons_of_mem _ hx)
    have hm2 : ∀ x ∈ cs, m x = q (runeOf x) := fun x hx => hm x (List.mem_cons_of_mem _ hx)
    have hcn : c ≠ [] := hc.1
    rw [List.map_cons]
    by_cases h : last ≠ [] ∧ c = last ∧ m c = true
    · obtain ⟨h1, h2, h3⟩ := h
      rw [sq_drop cs h1 h2 h3, sq_runes m q cs last hg2 hm2 hl, if_neg h1, ← h2, sqR, if_pos ⟨rfl, by rw [← hmc]; exact h3⟩]
    · rw [sq_keep cs h, sq_runes m q cs c hg2 hm2 (Or.inr hc), if_neg hcn, sqR]
      rw [if_neg, List.map_cons, List.flatten_cons, encode_runeOf c hc]
      rintro ⟨h1, h2⟩
      by_cases hl0 : last = []
      · rw [if_pos hl0] at h1; cases h1
      · rw [if_neg hl0] at h1
        have hgl : Plain.Good last := hl.elim (fun y => absurd y hl0) id
        have : runeOf last = runeOf c := by simpa using h1
        exact h ⟨hl0, good_inj hc hgl this.symm, by rw [hmc]; exact h2⟩
theorem sq_len (m : List UInt8 → Bool) : ∀ (cs : List (List UInt8)) (last : List UInt8), (sq m last cs).length ≤ cs.flatten.length
  | [], last => by simp [sq]
  | c :: cs, last => by
    rw [sq]
    split
    · have := sq_len m cs last
      simp only [List.flatten_cons, List.length_append]; omega
    · have := sq_len m cs c
      simp only [List.flatten_cons, List.length_append]; omega
/-- the text of the squeezed characters is what the package's code leaves -/
theorem sq_text {P s : ByteArray} (hP : Lib.validD P.data.toList = true) (hs : Lib.validD s.data.toList = true) {L : List Nat} {nt : Bool} (h : patS false (rnsL P.data.toList) = some (L, nt)) :
    textOf (sqR (fun r => decide (P.data.toList = []) || inB L nt r) none (rnsL s.data.toList)) = sqS P s := by
  have := sq_runes (mB P.data.toList) (fun r => decide (P.data.toList = []) || inB L nt r) (segs s.data.toList) [] (segs_good _ hs) (fun c _ => by
    unfold mB
    by_cases hp : P.data.toList = []
    · simp [hp]
    · rw [if_neg hp, pat_trR hP h]
      cases inB L nt (runeOf c) <;> simp [hp]) (Or.inl rfl)
  unfold sqS textOf
  rw [this, if_pos rfl]
  rfl
end Go.Proofs.YtdgaehkfdaacjaaDoor
