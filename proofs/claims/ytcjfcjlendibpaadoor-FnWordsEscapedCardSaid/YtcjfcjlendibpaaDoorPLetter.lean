/- laws.letter, in plain words. -/
import Derived.Test.YtcjfcjlendibpaaDoorPFnWordsEscapedx1
import Derived.Test.YtcjfcjlendibpaaDoorPRows
set_option linter.unusedVariables false
namespace Go.Proofs.YtcjfcjlendibpaaDoor
open Go.RowKit Plain Go.Proofs.YtcjfcjlendibpaaDoorW.PrintWords

def letB (c : Nat) : Bool := (decide (97 ≤ c) && decide (c ≤ 122)) || (decide (65 ≤ c) && decide (c ≤ 90))
theorem letter_at (c : Nat) (z : Int) (w : World) (r : Bool) (hz : z = (c : Int)) (hr : letB c = r) :
    Calls Tryd.prog 16 #[.int .u8 z] w fun e w' => e = .returned (.bool r) ∧ Below w.heap.size w w' := by
  subst hz
  refine (PFnWordsEscaped.laws_letter.calls (c : Int) r w ?_).mono fun e w' ⟨he, hd⟩ => ⟨he, hd.below⟩
  rw [← hr]
  unfold PFnWordsEscaped.laws_letter.f letB
  by_cases h1 : 97 ≤ c
  · rw [if_pos (by omega), decide_eq_true h1, Bool.true_and]
    by_cases h2 : c ≤ 122
    · rw [if_pos (by omega), decide_eq_true h2, Bool.true_or]
    · rw [if_neg (by omega), if_pos (by omega), decide_eq_false h2, Bool.false_or, decide_eq_true (show 65 ≤ c by omega), Bool.true_and]
      congr 1
      rw [decide_eq_decide]
      omega
  · rw [if_neg (by omega), decide_eq_false h1, Bool.false_and, Bool.false_or]
    by_cases h2 : 65 ≤ c
    · rw [if_pos (by omega), decide_eq_true h2, Bool.true_and]
      congr 1
      rw [decide_eq_decide]
      omega
    · rw [if_neg (by omega), decide_eq_false h2, Bool.false_and]
theorem alnum_let (c : Nat) : alnum c = (letB c || (decide (48 ≤ c) && decide (c ≤ 57))) := rfl
def escB (x : ByteArray) : ByteArray := ⟨(x.data.toList.flatMap escC).toArray⟩
theorem escC_len (c : UInt8) : (escC c).length ≤ 2 := by unfold escC; split <;> simp
theorem esc_len (l : List UInt8) : (l.flatMap escC).length ≤ 2 * l.length := by
  induction l with
  | nil => exact Nat.le_refl _
  | cons c l ih =>
    have := escC_len c
    rw [List.flatMap_cons, List.length_append, List.length_cons]
    omega
theorem escB_size (x : ByteArray) : (escB x).size ≤ 2 * x.size := by
  have := esc_len x.data.toList
  rw [Lib.size_eq, Lib.size_eq]
  exact this
theorem esc_sum (l : List ByteArray) : szSum (l.map escB) ≤ 2 * szSum l := by
  induction l with
  | nil => exact Nat.le_refl _
  | cons x l ih =>
    have := escB_size x
    show (escB x).size + szSum (l.map escB) ≤ 2 * (x.size + szSum l)
    omega
theorem escB_map (l : List ByteArray) : l.map escB = baOf ((laOf l).map fun x => x.flatMap escC) := by
  unfold baOf laOf
  rw [List.map_map, List.map_map]
  rfl
theorem esc_ok (l : List ByteArray) (hne : l ≠ []) (hs : l.all seenB = true) (h : ∀ x ∈ l, x.size ≠ 0) : words false (rnsOf (joinedB ⟨#[32]⟩ (l.map escB)).data.toList) = some (laOf l, -1) := by
  have hb : ∀ x ∈ laOf l, ∀ c ∈ x, c.toNat < 128 := by
    intro x hx c hc
    obtain ⟨y, hy, rfl⟩ := List.mem_map.1 hx
    have h1 := List.all_eq_true.1 hs y hy
    have h2 := List.all_eq_true.1 (show y.data.toList.all _ = true from h1) c hc
    simp only [Bool.and_eq_true, decide_eq_true_eq] at h2
    omega
  have hn : ∀ x ∈ laOf l, x ≠ [] := by
    intro x hx e
    obtain ⟨y, hy, rfl⟩ := List.mem_map.1 hx
    exact h y hy (by rw [Lib.size_eq, e]; rfl)
  rw [escB_map]
  refine words_enc (fun x => x.flatMap escC) (laOf l) (by simpa [laOf] using hne) (fun x hx => escaped_ok x (hn x hx) (hb x hx)) (fun x hx c hc => ?_)
  obtain ⟨d, hd, hc⟩ := List.mem_flatMap.1 hc
  unfold escC at hc
  split at hc
  · simp at hc; subst hc; exact hb x hx c hd
  · simp at hc
    rcases hc with rfl | rfl
    · decide
    · exact hb x hx c hd
theorem esc_step {l : List UInt8} {k : Nat} {c : UInt8} (h : l[k]? = some c) : (l.take (k + 1)).flatMap escC = (l.take k).flatMap escC ++ escC c := by
  rw [List.take_add_one, h, List.flatMap_append]
  simp
end Go.Proofs.YtcjfcjlendibpaaDoor
