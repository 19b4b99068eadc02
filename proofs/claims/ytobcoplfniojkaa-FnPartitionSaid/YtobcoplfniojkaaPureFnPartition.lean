/- FnPartition: a text is split at the first instance of a separator, as the code's own loop finds it; no condition. -/
import Derived.Test.YtobcoplfniojkaaPFnPartitionx1
import Derived.Lib.Strings
namespace Go.Proofs.Ytobcoplfniojkaa.Pure
open Go.RowKit Go.Proofs.Ytobcoplfniojkaa.PFnPartition Go.Proofs.YtobcoplfniojkaaW.PrintWords Go.Proofs.YtobcoplfniojkaaW.PrintLast

/-- the separator stands at a place of the text -/
def M (s t : ByteArray) (j : Nat) : Prop := (s.extract j (j + t.size)).toList = t.toList

theorem wadd (a b : Nat) (h : a + b < 9223372036854775808) : wrap64 ((a : Int) + (b : Int)) = ((a + b : Nat) : Int) := by
  unfold wrap64; omega

theorem idx_l0 (s t : ByteArray) (hs : s.size ≤ 140737488351232) (ht : t.size ≤ 140737488351232) (d : Nat) : ∀ (k i : Nat), i ≤ s.size + 1 → s.size + 1 - i = d → d < k →
    ∃ r, xstrings_zzIndex.l0 k s t i = some r ∧ ((r = -1 ∧ ∀ j, i ≤ j → j + t.size ≤ s.size → ¬ M s t j) ∨ ∃ j : Nat, r = j ∧ i ≤ j ∧ j + t.size ≤ s.size ∧ M s t j ∧ ∀ m, i ≤ m → m < j → ¬ M s t m) := by
  induction d with
  | zero =>
    intro k i hi hd hk
    obtain ⟨k, rfl⟩ : ∃ m, k = m + 1 := ⟨k - 1, by omega⟩
    refine ⟨-1, ?_, .inl ⟨rfl, fun j h1 h2 => by omega⟩⟩
    simp only [xstrings_zzIndex.l0]
    rw [wadd i t.size (by omega), if_neg (by omega)]
  | succ d ih =>
    intro k i hi hd hk
    obtain ⟨k, rfl⟩ : ∃ m, k = m + 1 := ⟨k - 1, by omega⟩
    simp only [xstrings_zzIndex.l0]
    rw [wadd i t.size (by omega)]
    by_cases hle : i + t.size ≤ s.size
    · rw [if_pos (by omega), if_pos (by omega), if_pos (by omega)]
      simp only [Int.toNat_natCast]
      by_cases hm : M s t i
      · rw [if_pos (show (s.extract i (i + t.size)).toList = t.toList from hm)]
        exact ⟨i, rfl, .inr ⟨i, rfl, Nat.le_refl _, hle, hm, fun m h1 h2 => by omega⟩⟩
      · rw [if_neg (show ¬ (s.extract i (i + t.size)).toList = t.toList from hm)]
        have e : wrap64 ((i : Int) + 1) = ((i + 1 : Nat) : Int) := wadd i 1 (by omega)
        rw [e]
        obtain ⟨r, hr, h⟩ := ih k (i + 1) (by omega) (by omega) (by omega)
        refine ⟨r, hr, ?_⟩
        rcases h with ⟨h1, h2⟩ | ⟨j, h1, h2, h3, h4, h5⟩
        · refine .inl ⟨h1, fun j g1 g2 => ?_⟩
          by_cases e : j = i
          · subst e; exact hm
          · exact h2 j (by omega) g2
        · refine .inr ⟨j, h1, by omega, h3, h4, fun m g1 g2 => ?_⟩
          by_cases e : m = i
          · subst e; exact hm
          · exact h5 m (by omega) g2
    · rw [if_neg (by omega)]
      exact ⟨-1, rfl, .inl ⟨rfl, fun j h1 h2 => by omega⟩⟩

theorem at_same (s t : ByteArray) : ∀ (k : Nat) (x : Int), laws_at.l0 k s t x = xstrings_zzIndex.l0 k s t x := by
  intro k
  induction k with
  | zero => intro x; rfl
  | succ k ih =>
    intro x
    simp only [laws_at.l0, xstrings_zzIndex.l0, ih]

theorem ext_all (s : ByteArray) : s.extract 0 s.size = s := by
  simp

theorem parts (s : ByteArray) (a b : Nat) (h1 : a ≤ b) (h2 : b ≤ s.size) : (s.extract 0 a ++ s.extract a b) ++ s.extract b s.size = s := by
  rw [ByteArray.extract_append_extract, Nat.min_eq_left (Nat.zero_le a), Nat.max_eq_right h1, ByteArray.extract_append_extract, Nat.min_eq_left (Nat.zero_le b), Nat.max_eq_right h2]
  simp

/-- what the split at the first place gives: no place, or the three parts round the first one -/
theorem part_at (s t : ByteArray) (hs : s.size ≤ 140737488351232) (ht : t.size ≤ 140737488351232) (k : Nat) (hk : s.size + 1 < k) :
    (xstrings_zzIndex.f k s t = some (-1) ∧ impl_Partition.f k s t = some (s, ⟨#[]⟩, ⟨#[]⟩) ∧ ∀ j, j + t.size ≤ s.size → ¬ M s t j) ∨
    ∃ j : Nat, xstrings_zzIndex.f k s t = some (j : Int) ∧ impl_Partition.f k s t = some (s.extract 0 j, s.extract j (j + t.size), s.extract (j + t.size) s.size) ∧ j + t.size ≤ s.size ∧ M s t j ∧ ∀ m, m < j → ¬ M s t m := by
  obtain ⟨r, hr, h⟩ := idx_l0 s t hs ht (s.size + 1) k 0 (by omega) (by omega) hk
  have hr' : xstrings_zzIndex.f k s t = some r := hr
  rcases h with ⟨h1, h2⟩ | ⟨j, h1, h2, h3, h4, h5⟩
  · subst h1
    refine .inl ⟨hr', ?_, fun j hj => h2 j (Nat.zero_le _) hj⟩
    unfold impl_Partition.f xstrings_Partition.f
    rw [hr']
    simp
  · subst h1
    refine .inr ⟨j, hr', ?_, h3, h4, fun m hm => h5 m (Nat.zero_le _) hm⟩
    unfold impl_Partition.f xstrings_Partition.f
    rw [hr']
    simp only [Option.bind_some]
    rw [wadd j t.size (by omega), if_neg (by omega), if_pos (by omega), if_pos (by omega), if_pos (by omega), if_pos (by omega), if_pos (by omega)]
    simp only [Option.bind_some, Int.toNat_natCast]

theorem hello : impl_Partition.f 7 (⟨#[104, 101, 108, 108, 111]⟩ : ByteArray) (⟨#[108]⟩ : ByteArray) = some (⟨#[104, 101]⟩, ⟨#[108]⟩, ⟨#[108, 111]⟩) := by
  decide +kernel

theorem j2_true (s t : ByteArray) (hs : s.size ≤ 140737488351232) (ht : t.size ≤ 140737488351232) (k : Nat) (hk : s.size + 1 < k) (b : Bool) : laws_FnPartition.j2 (k + 1) s t b = some true := by
  simp only [laws_FnPartition.j2]
  by_cases hb : b = true
  · rw [if_pos hb]
  rw [if_neg hb]
  have hat : laws_at.f k s t 0 = xstrings_zzIndex.f k s t := at_same s t k 0
  rw [hat]
  rcases part_at s t hs ht k hk with ⟨h1, h2, _⟩ | ⟨j, h1, h2, h3, h4, _⟩
  · rw [h1, h2]
    simp only [Option.bind_some]
    rw [if_pos (by omega), if_pos trivial, if_pos (by decide +kernel)]
    decide +kernel
  · rw [h1, h2]
    simp only [Option.bind_some]
    rw [wadd j t.size (by omega), if_neg (by omega), if_pos (by omega), if_pos (by omega)]
    simp only [Int.toNat_natCast]
    rw [if_pos trivial, if_pos (show (s.extract j (j + t.size)).toList = t.toList from h4), if_pos (by omega), if_pos (by omega)]
    simp

theorem FnPartition : laws_FnPartition.Pure := by
  intro s t hs ht
  have hj2 := j2_true s t hs ht (s.size + 20) (by omega)
  have hj1 : laws_FnPartition.j1 (s.size + 22) s t false = some true := by
    simp only [laws_FnPartition.j1, laws_long.f, Option.bind_some]
    rw [if_neg (by decide)]
    split
    · exact hj2 _
    · split
      · exact hj2 _
      · exact hj2 _
  have hj0 : ∀ b, laws_FnPartition.j0 (s.size + 23) s t b = some true := by
    intro b
    simp only [laws_FnPartition.j0]
    by_cases hb : b = true
    · rw [if_pos hb]
    rw [if_neg hb, at_rounds (fun k => impl_Partition.mono _ _ k) (show 7 ≤ s.size + 22 by omega) hello]
    simp only [Option.bind_some]
    rw [if_pos (by decide +kernel), if_pos (by decide +kernel), show ((⟨#[108, 111]⟩ : ByteArray).toList != ([108, 111] : List UInt8)) = false by decide +kernel]
    exact hj1
  refine ⟨s.size + 23, ?_⟩
  unfold laws_FnPartition.f
  split <;> exact hj0 _

end Go.Proofs.Ytobcoplfniojkaa.Pure
