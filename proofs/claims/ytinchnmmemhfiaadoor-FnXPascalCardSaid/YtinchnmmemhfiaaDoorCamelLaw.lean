/- Plain laws on xstrings' camel case: words of letters and digits of ASCII with single separators between them. No program is in sight here. -/
import Derived.Test.YtinchnmmemhfiaaDoorCaseLaw
set_option linter.unusedVariables false
namespace Go.Proofs.YtinchnmmemhfiaaDoor.Plain

def conB (b : UInt8) : Bool := b.toNat == 32 || b.toNat == 95 || b.toNat == 45
def alnB (b : UInt8) : Bool := capB b || lowB b || numB b
def domB (b : UInt8) : Bool := alnB b || conB b
/-- what is written behind a first character 'r' (which is not yet written); 'fu': the word's capitals are made small -/
def camel (r : UInt8) (fu : Bool) : List UInt8 → List UInt8
  | [] => [r]
  | c :: t => if conB r then (if conB c then r :: camel c fu t else camel (upB c) (capB c) t) else r :: (if fu && capB c then camel (dnB c) true t else camel c false t)
/-- words with one separator between two -/
def sgl (word : Bool) : List UInt8 → Bool
  | [] => word
  | c :: t => if !alnB c && !word then false else sgl (alnB c) t
theorem aln_cls (b : UInt8) (h : alnB b = true) : conB b = false ∧ conB (upB b) = false ∧ conB (dnB b) = false ∧ dnB (dnB b) = dnB (upB b) := by
  have := byte_all (p := fun b => !(alnB b) || (!(conB b) && !(conB (upB b)) && !(conB (dnB b)) && dnB (dnB b) == dnB (upB b))) (by decide +kernel) b
  rw [h] at this
  simpa [and_assoc] using this
theorem con_dn (b : UInt8) : conB (dnB b) = conB b ∧ conB (upB b) = conB b := by
  have := byte_all (p := fun b => conB (dnB b) == conB b && conB (upB b) == conB b) (by decide +kernel) b
  simpa using this
theorem camel_cons (r : UInt8) (h : conB r = false) (fu : Bool) (t : List UInt8) : ∃ u, ∀ r', conB r' = false → camel r' fu t = r' :: u := by
  cases t with
  | nil => exact ⟨[], fun _ _ => rfl⟩
  | cons c t => exact ⟨if fu && capB c then camel (dnB c) true t else camel c false t, fun r' h' => by simp [camel, h']⟩
theorem camel_first (c : UInt8) (h : alnB c = true) (fu : Bool) (t : List UInt8) : (camel (dnB c) fu t).map dnB = (camel (upB c) fu t).map dnB := by
  obtain ⟨_, hu, hd, he⟩ := aln_cls c h
  obtain ⟨u, hx⟩ := camel_cons _ hd fu t
  rw [hx _ hd, hx _ hu, List.map_cons, List.map_cons, he]
theorem camel_clear : ∀ (t : List UInt8) (r : UInt8) (fu : Bool), (∀ c ∈ t, domB c = true) → sgl (!(conB r)) t = true → ∀ x ∈ camel r fu t, conB x = false
  | [], r, fu, _, hs, x, hx => by
    simp only [sgl, camel, List.mem_singleton] at hs hx
    subst hx
    simpa using hs
  | c :: t, r, fu, hd, hs, x, hx => by
    have hdt : ∀ c ∈ t, domB c = true := fun y hy => hd y (List.mem_cons_of_mem _ hy)
    have hdc := hd c List.mem_cons_self
    have key : sgl (!(conB c)) t = true := by
      have e : alnB c = !(conB c) := by
        have := byte_all (p := fun b => !(domB b) || (alnB b == !(conB b))) (by decide +kernel) c
        rw [hdc] at this
        simpa using this
      unfold sgl at hs
      split at hs
      · cases hs
      · rw [← e]; exact hs
    cases hr : conB r with
    | true =>
      have hc : conB c = false := by
        have e : alnB c = !(conB c) := by
          have := byte_all (p := fun b => !(domB b) || (alnB b == !(conB b))) (by decide +kernel) c
          rw [hdc] at this
          simpa using this
        rw [hr] at hs
        simp only [sgl, Bool.not_true, Bool.not_false, Bool.and_true] at hs
        cases hk : alnB c with
        | false => rw [hk] at hs; cases hs
        | true => rw [hk] at e; simpa using e.symm
      simp only [camel, hr, hc] at hx
      exact camel_clear t _ _ hdt (by rw [(con_dn c).2]; exact key) x hx
    | false =>
      simp only [camel, hr] at hx
      rcases List.mem_cons.1 hx with rfl | hx
      · exact hr
      · split at hx
        · exact camel_clear t _ _ hdt (by rw [(con_dn c).1]; exact key) x hx
        · exact camel_clear t _ _ hdt key x hx
theorem camel_length : ∀ (t : List UInt8) (r : UInt8) (fu : Bool), (camel r fu t).length ≤ t.length + 1
  | [], _, _ => by simp [camel]
  | c :: t, r, fu => by
    have h1 := camel_length t (upB c) (capB c)
    have h2 := camel_length t (dnB c) true
    have h3 := camel_length t c false
    have h4 := camel_length t c fu
    unfold camel
    split
    · split
      · simp; omega
      · simp; omega
    · simp only [List.length_cons]
      split <;> omega
end Go.Proofs.YtinchnmmemhfiaaDoor.Plain
