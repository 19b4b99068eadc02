/- What padding says, in plain lists of pieces. -/
import Derived.Test.YtobcoplfniojkaaDoorJustifyL
import Derived.Test.YtobcoplfniojkaaDoorFnReverseTwice
namespace Go.Proofs.YtobcoplfniojkaaDoor
open Go.RowKit Plain

/-- 'k' pieces, round and round, as a list -/
def padP (ps : List (List UInt8)) (k : Nat) : List (List UInt8) := (List.replicate (k / ps.length) ps).flatten ++ ps.take (k % ps.length)
theorem flat_flat (n : Nat) (ps : List (List UInt8)) : ((List.replicate n ps).flatten).flatten = (List.replicate n ps.flatten).flatten := by
  induction n with
  | zero => rfl
  | succ n ih => rw [List.replicate_succ, List.flatten_cons, List.flatten_append, ih, List.replicate_succ, List.flatten_cons]
theorem padOf_flat (ps : List (List UInt8)) (k : Nat) : padOf ps k = (padP ps k).flatten := by
  unfold padOf padP
  rw [List.flatten_append, flat_flat]
theorem padP_good {ps : List (List UInt8)} (k : Nat) (h : ∀ c ∈ ps, Plain.Good c) : ∀ c ∈ padP ps k, Plain.Good c := by
  intro c hc
  unfold padP at hc
  rcases List.mem_append.1 hc with hc | hc
  · obtain ⟨l, hl, hcl⟩ := List.mem_flatten.1 hc
    rw [(List.mem_replicate.1 hl).2] at hcl
    exact h c hcl
  · exact h c (List.mem_of_mem_take hc)
theorem padP_length {ps : List (List UInt8)} (k : Nat) (h : 0 < ps.length) : (padP ps k).length = k := by
  unfold padP
  have h1 := Nat.mod_lt k h
  have h2 := Nat.div_add_mod k ps.length
  rw [List.length_append, List.length_take, List.length_flatten, List.map_replicate, List.sum_replicate_nat, Nat.min_eq_left (Nat.le_of_lt h1), Nat.mul_comm]
  exact h2
theorem padP_zero (ps : List (List UInt8)) : padP ps 0 = [] := by simp [padP]
theorem padOf_zero (ps : List (List UInt8)) : padOf ps 0 = [] := by rw [padOf_flat, padP_zero]; rfl
theorem rep_get (ps : List (List UInt8)) (h : 0 < ps.length) : ∀ (n i : Nat), i < n * ps.length → ((List.replicate n ps).flatten)[i]? = ps[i % ps.length]?
  | 0, i, hi => by omega
  | n + 1, i, hi => by
    rw [List.replicate_succ, List.flatten_cons]
    by_cases hlt : i < ps.length
    · rw [List.getElem?_append_left hlt, Nat.mod_eq_of_lt hlt]
    · rw [List.getElem?_append_right (by omega), rep_get ps h n (i - ps.length) (by rw [Nat.succ_mul] at hi; omega)]
      rw [← Nat.mod_eq_sub_mod (by omega)]
theorem padP_get (ps : List (List UInt8)) (h : 0 < ps.length) (k i : Nat) (hi : i < k) : (padP ps k)[i]? = ps[i % ps.length]? := by
  unfold padP
  have h2 := Nat.div_add_mod k ps.length
  have hl : (List.replicate (k / ps.length) ps).flatten.length = k / ps.length * ps.length := by
    rw [List.length_flatten, List.map_replicate, List.sum_replicate_nat]
  rw [Nat.mul_comm] at h2
  by_cases hlt : i < k / ps.length * ps.length
  · rw [List.getElem?_append_left (by rw [hl]; exact hlt), rep_get ps h _ _ hlt]
  · have h1 := Nat.mod_lt k h
    rw [List.getElem?_append_right (by rw [hl]; omega), hl, List.getElem?_take, if_pos (by omega)]
    have h4 : i % ps.length = i - k / ps.length * ps.length := by
      rw [← Nat.mod_eq_of_lt (show i - k / ps.length * ps.length < ps.length by omega)]
      have := Nat.add_mul_mod_self_right (i - k / ps.length * ps.length) (k / ps.length) ps.length
      rw [Nat.sub_add_cancel (by omega)] at this
      exact this
    rw [h4]

theorem segs_pad (s : List UInt8) {ps : List (List UInt8)} (k : Nat) (h : ∀ c ∈ ps, Plain.Good c) : segs (padOf ps k ++ s) = padP ps k ++ segs s := by
  rw [padOf_flat]; exact segs_flatten_good _ _ (padP_good k h)
theorem segs_len_pos {l : List UInt8} (h : l ≠ []) : 0 < (segs l).length := by
  rcases Nat.eq_zero_or_pos (segs l).length with e | e
  · exact absurd ((segs_eq_nil l).1 (List.eq_nil_of_length_eq_zero e)) h
  · exact e

/-- the text in the middle, by two roads -/
theorem center_roads (s p : List UInt8) (n left : Int) (hp : Lib.validD p = true) (hl : left = if ((segs s).length : Int) < n then (segs s).length + (n - (segs s).length) / 2 else (segs s).length) : leftB (rightB s p left) p n = centerB s p n := by
  by_cases hc : n ≤ (segs s).length ∨ p = []
  · have h1 : rightB s p left = s := by
      unfold rightB
      rcases hc with hc | hc
      · rw [if_neg (by omega)] at hl
        rw [if_pos (.inl (by omega))]
      · rw [if_pos (.inr hc)]
    rw [h1]
    unfold leftB centerB
    rw [if_pos hc, if_pos hc]
  · have hc1 : (segs s).length < n := by
      rcases Int.lt_or_le (segs s).length n with h | h
      · exact h
      · exact absurd (.inl h) hc
    have hc2 : p ≠ [] := fun h => hc (.inr h)
    rw [if_pos hc1] at hl
    have hP := segs_good p hp
    have hN := segs_len_pos hc2
    obtain ⟨k, hk⟩ : ∃ k : Nat, n - ((segs s).length : Int) = k := ⟨(n - (segs s).length).toNat, by omega⟩
    have hlk : lack s n = k := by unfold lack; omega
    have hl2 : left = (segs s).length + ((k / 2 : Nat) : Int) := by omega
    have h1 : rightB s p left = padOf (segs p) (k / 2) ++ s := by
      unfold rightB
      by_cases h0 : k / 2 = 0
      · rw [if_pos (.inl (by omega)), h0, padOf_zero]; rfl
      · rw [if_neg (by rintro (h | h); omega; exact hc2 h)]
        have : lack s left = k / 2 := by unfold lack; omega
        rw [this]
    have h2 : (segs (padOf (segs p) (k / 2) ++ s)).length = k / 2 + (segs s).length := by
      rw [segs_pad s _ hP, List.length_append, padP_length _ hN]
    rw [h1]
    unfold leftB centerB
    rw [if_neg (by rw [h2]; rintro (h | h); omega; exact hc2 h), if_neg (by rintro (h | h); omega; exact hc2 h), hlk]
    have : lack (padOf (segs p) (k / 2) ++ s) n = (k + 1) / 2 := by unfold lack; rw [h2]; omega
    rw [this]
end Go.Proofs.YtobcoplfniojkaaDoor
