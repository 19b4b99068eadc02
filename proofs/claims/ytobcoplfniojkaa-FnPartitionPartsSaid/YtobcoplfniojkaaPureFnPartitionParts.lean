/- FnPartitionParts: the three parts of both splits make the text, and both agree if the separator stands in it once; no condition. -/
import Derived.Test.YtobcoplfniojkaaPFnPartitionPartsx2
import Derived.Lib.Strings
namespace Go.Proofs.Ytobcoplfniojkaa.Pure
open Go.RowKit Go.Proofs.Ytobcoplfniojkaa.PFnPartitionParts Go.Proofs.YtobcoplfniojkaaW.PrintWords Go.Proofs.YtobcoplfniojkaaW.PrintLast

/-- the separator stands at a place of the text -/
def M (s t : ByteArray) (j : Nat) : Prop := (s.extract j (j + t.size)).toList = t.toList

theorem wadd (a b : Nat) (h : a + b < 9223372036854775808) : wrap64 ((a : Int) + (b : Int)) = ((a + b : Nat) : Int) := by
  unfold wrap64; omega

theorem idx_l0 (s t : ByteArray) (hs : s.size ≤ 140737488351232) (ht : t.size ≤ 140737488351232) (d : Nat) : ∀ (k i : Nat), i ≤ s.size + 1 → s.size + 1 - i = d → d < k →
    ∃ r, xstrings_zzIndex.l0 k s t i = some r ∧ ((r = -1 ∧ ∀ j, i ≤ j → j + t.size ≤ s.size → ¬ M s t j) ∨ ∃ j : Nat, r = j ∧ i ≤ j ∧ j + t.size ≤ s.size ∧ M s t j ∧ ∀ m, i ≤ m → m < j → ¬ M s t m) := by
  induction d with
  | zero =>
    intro k i hi hd hk
    obtain ⟨k, rfl⟩ : ∃ m, k = m + 1 := ⟨k - 1, by omega⟩
    refine ⟨-1, ?_, .inl ⟨rfl, fun j h1 h2 => by omega⟩⟩
    simp only [xstrings_zzIndex.l0]
    rw [wadd i t.size (by omega), if_neg (by omega)]
  | succ d ih =>
    intro k i hi hd hk
    obtain ⟨k, rfl⟩ : ∃ m, k = m + 1 := ⟨k - 1, by omega⟩
    simp only [xstrings_zzIndex.l0]
    rw [wadd i t.size (by omega)]
    by_cases hle : i + t.size ≤ s.size
    · rw [if_pos (by omega), if_pos (by omega), if_pos (by omega)]
      simp only [Int.toNat_natCast]
      by_cases hm : M s t i
      · rw [if_pos (show (s.extract i (i + t.size)).toList = t.toList from hm)]
        exact ⟨i, rfl, .inr ⟨i, rfl, Nat.le_refl _, hle, hm, fun m h1 h2 => by omega⟩⟩
      · rw [if_neg (show ¬ (s.extract i (i + t.size)).toList = t.toList from hm)]
        have e : wrap64 ((i : Int) + 1) = ((i + 1 : Nat) : Int) := wadd i 1 (by omega)
        rw [e]
        obtain ⟨r, hr, h⟩ := ih k (i + 1) (by omega) (by omega) (by omega)
        refine ⟨r, hr, ?_⟩
        rcases h with ⟨h1, h2⟩ | ⟨j, h1, h2, h3, h4, h5⟩
        · refine .inl ⟨h1, fun j g1 g2 => ?_⟩
          by_cases e : j = i
          · subst e; exact hm
          · exact h2 j (by omega) g2
        · refine .inr ⟨j, h1, by omega, h3, h4, fun m g1 g2 => ?_⟩
          by_cases e : m = i
          · subst e; exact hm
          · exact h5 m (by omega) g2
    · rw [if_neg (by omega)]
      exact ⟨-1, rfl, .inl ⟨rfl, fun j h1 h2 => by omega⟩⟩

theorem at_same (s t : ByteArray) : ∀ (k : Nat) (x : Int), laws_at.l0 k s t x = xstrings_zzIndex.l0 k s t x := by
  intro k
  induction k with
  | zero => intro x; rfl
  | succ k ih =>
    intro x
    simp only [laws_at.l0, xstrings_zzIndex.l0, ih]

theorem ext_all (s : ByteArray) : s.extract 0 s.size = s := by
  simp

theorem parts (s : ByteArray) (a b : Nat) (h1 : a ≤ b) (h2 : b ≤ s.size) : (s.extract 0 a ++ s.extract a b) ++ s.extract b s.size = s := by
  rw [ByteArray.extract_append_extract, Nat.min_eq_left (Nat.zero_le a), Nat.max_eq_right h1, ByteArray.extract_append_extract, Nat.min_eq_left (Nat.zero_le b), Nat.max_eq_right h2]
  simp

/-- what the split at the first place gives: no place, or the three parts round the first one -/
theorem part_at (s t : ByteArray) (hs : s.size ≤ 140737488351232) (ht : t.size ≤ 140737488351232) (k : Nat) (hk : s.size + 1 < k) :
    (xstrings_zzIndex.f k s t = some (-1) ∧ impl_Partition.f k s t = some (s, ⟨#[]⟩, ⟨#[]⟩) ∧ ∀ j, j + t.size ≤ s.size → ¬ M s t j) ∨
    ∃ j : Nat, xstrings_zzIndex.f k s t = some (j : Int) ∧ impl_Partition.f k s t = some (s.extract 0 j, s.extract j (j + t.size), s.extract (j + t.size) s.size) ∧ j + t.size ≤ s.size ∧ M s t j ∧ ∀ m, m < j → ¬ M s t m := by
  obtain ⟨r, hr, h⟩ := idx_l0 s t hs ht (s.size + 1) k 0 (by omega) (by omega) hk
  have hr' : xstrings_zzIndex.f k s t = some r := hr
  rcases h with ⟨h1, h2⟩ | ⟨j, h1, h2, h3, h4, h5⟩
  · subst h1
    refine .inl ⟨hr', ?_, fun j hj => h2 j (Nat.zero_le _) hj⟩
    unfold impl_Partition.f xstrings_Partition.f
    rw [hr']
    simp
  · subst h1
    refine .inr ⟨j, hr', ?_, h3, h4, fun m hm => h5 m (Nat.zero_le _) hm⟩
    unfold impl_Partition.f xstrings_Partition.f
    rw [hr']
    simp only [Option.bind_some]
    rw [wadd j t.size (by omega), if_neg (by omega), if_pos (by omega), if_pos (by omega), if_pos (by omega), if_pos (by omega), if_pos (by omega)]
    simp only [Option.bind_some, Int.toNat_natCast]

theorem hello : impl_Partition.f 7 (⟨#[104, 101, 108, 108, 111]⟩ : ByteArray) (⟨#[101]⟩ : ByteArray) = some (⟨#[104]⟩, ⟨#[101]⟩, ⟨#[108, 108, 111]⟩) := by
  decide +kernel

theorem last_l0 (s t : ByteArray) (hs : s.size ≤ 140737488351232) (ht : t.size ≤ 140737488351232) : ∀ (n k : Nat) (i : Int), i = (n : Int) - 1 → i + t.size ≤ s.size → n < k →
    ∃ r, xstrings_zzLastIndex.l0 k s t i = some r ∧ ((r = -1 ∧ ∀ j : Nat, (j : Int) ≤ i → ¬ M s t j) ∨ ∃ j : Nat, r = j ∧ (j : Int) ≤ i ∧ M s t j ∧ ∀ m : Nat, j < m → (m : Int) ≤ i → ¬ M s t m) := by
  intro n
  induction n with
  | zero =>
    intro k i hi hle hk
    obtain ⟨k, rfl⟩ : ∃ m, k = m + 1 := ⟨k - 1, by omega⟩
    refine ⟨-1, ?_, .inl ⟨rfl, fun j h => by omega⟩⟩
    simp only [xstrings_zzLastIndex.l0]
    rw [if_neg (by omega)]
  | succ n ih =>
    intro k i hi hle hk
    obtain rfl : i = (n : Int) := by omega
    obtain ⟨k, rfl⟩ : ∃ m, k = m + 1 := ⟨k - 1, by omega⟩
    simp only [xstrings_zzLastIndex.l0]
    rw [wadd n t.size (by omega), if_pos (by omega), if_pos (by omega), if_pos (by omega), if_pos (by omega)]
    simp only [Int.toNat_natCast]
    by_cases hm : M s t n
    · rw [if_pos (show (s.extract n (n + t.size)).toList = t.toList from hm)]
      exact ⟨n, rfl, .inr ⟨n, rfl, Int.le_refl _, hm, fun m h1 h2 => by omega⟩⟩
    · rw [if_neg (show ¬ (s.extract n (n + t.size)).toList = t.toList from hm)]
      have e : wrap64 ((n : Int) - 1) = (n : Int) - 1 := by unfold wrap64; omega
      rw [e]
      obtain ⟨r, hr, h⟩ := ih k ((n : Int) - 1) rfl (by omega) (by omega)
      refine ⟨r, hr, ?_⟩
      rcases h with ⟨h1, h2⟩ | ⟨j, h1, h2, h3, h4⟩
      · refine .inl ⟨h1, fun j g => ?_⟩
        by_cases e : j = n
        · subst e; exact hm
        · exact h2 j (by omega)
      · refine .inr ⟨j, h1, by omega, h3, fun m g1 g2 => ?_⟩
        by_cases e : m = n
        · subst e; exact hm
        · exact h4 m g1 (by omega)

theorem last_at (s t : ByteArray) (hs : s.size ≤ 140737488351232) (ht : t.size ≤ 140737488351232) (k : Nat) (hk : s.size + 1 < k) :
    (impl_LastPartition.f k s t = some (⟨#[]⟩, ⟨#[]⟩, s) ∧ ∀ j, j + t.size ≤ s.size → ¬ M s t j) ∨
    ∃ j : Nat, impl_LastPartition.f k s t = some (s.extract 0 j, s.extract j (j + t.size), s.extract (j + t.size) s.size) ∧ j + t.size ≤ s.size ∧ M s t j ∧ ∀ m, j < m → m + t.size ≤ s.size → ¬ M s t m := by
  have e0 : wrap64 ((s.size : Int) - (t.size : Int)) = (s.size : Int) - (t.size : Int) := by unfold wrap64; omega
  obtain ⟨r, hr, h⟩ : ∃ r, xstrings_zzLastIndex.l0 k s t ((s.size : Int) - (t.size : Int)) = some r ∧ ((r = -1 ∧ ∀ j : Nat, (j : Int) ≤ (s.size : Int) - (t.size : Int) → ¬ M s t j) ∨ ∃ j : Nat, r = j ∧ (j : Int) ≤ (s.size : Int) - (t.size : Int) ∧ M s t j ∧ ∀ m : Nat, j < m → (m : Int) ≤ (s.size : Int) - (t.size : Int) → ¬ M s t m) := by
    by_cases h : t.size ≤ s.size
    · exact last_l0 s t hs ht (s.size - t.size + 1) k _ (by omega) (by omega) (by omega)
    · obtain ⟨k, rfl⟩ : ∃ m, k = m + 1 := ⟨k - 1, by omega⟩
      refine ⟨-1, ?_, .inl ⟨rfl, fun j h => by omega⟩⟩
      simp only [xstrings_zzLastIndex.l0]
      rw [if_neg (by omega)]
  have hr' : xstrings_zzLastIndex.f k s t = some r := by unfold xstrings_zzLastIndex.f; rw [e0]; exact hr
  rcases h with ⟨h1, h2⟩ | ⟨j, h1, h2, h3, h4⟩
  · subst h1
    refine .inl ⟨?_, fun j hj => h2 j (by omega)⟩
    unfold impl_LastPartition.f xstrings_LastPartition.f
    rw [hr']
    simp
  · subst h1
    refine .inr ⟨j, ?_, by omega, h3, fun m g1 g2 => h4 m g1 (by omega)⟩
    unfold impl_LastPartition.f xstrings_LastPartition.f
    rw [hr']
    simp only [Option.bind_some]
    rw [wadd j t.size (by omega), if_neg (by omega), if_pos (by omega), if_pos (by omega), if_pos (by omega), if_pos (by omega), if_pos (by omega)]
    simp only [Option.bind_some, Int.toNat_natCast]

/-- the parts of a split make the text -/
def Makes (s : ByteArray) (p : ByteArray × ByteArray × ByteArray) : Prop := (p.1 ++ p.2.1) ++ p.2.2 = s ∧ p.1.size + p.2.1.size ≤ s.size ∧ (p.1 ++ p.2.1).size + p.2.2.size ≤ s.size

theorem makes_at (s : ByteArray) (a b : Nat) (h1 : a ≤ b) (h2 : b ≤ s.size) : Makes s (s.extract 0 a, s.extract a b, s.extract b s.size) := by
  refine ⟨parts s a b h1 h2, ?_, ?_⟩
  · simp; omega
  · simp; omega

theorem makes_head (s : ByteArray) : Makes s (s, ⟨#[]⟩, ⟨#[]⟩) := by
  have h : (⟨#[]⟩ : ByteArray) = ByteArray.empty := rfl
  refine ⟨by rw [h]; simp, by rw [h]; simp, by rw [h]; simp⟩
theorem makes_tail (s : ByteArray) : Makes s (⟨#[]⟩, ⟨#[]⟩, s) := by
  have h : (⟨#[]⟩ : ByteArray) = ByteArray.empty := rfl
  refine ⟨by rw [h]; simp, by rw [h]; simp, by rw [h]; simp⟩

theorem j2_true (s t : ByteArray) (hs : s.size ≤ 140737488351232) (ht : t.size ≤ 140737488351232) (k : Nat) (hk : s.size + 4 < k) (b : Bool) : laws_FnPartitionParts.j2 (k + 1) s t b = some true := by
  have core : ∀ (p q : ByteArray × ByteArray × ByteArray), impl_Partition.f k s t = some p → impl_LastPartition.f k s t = some q → Makes s p → Makes s q → p.2.1 = q.2.1 →
      laws_FnPartitionParts.j3 k s t p.1 p.2.2 q.1 q.2.2 false = some true → laws_FnPartitionParts.j2 (k + 1) s t b = some true := by
    intro p q hp hq mp mq hpq h3
    simp only [laws_FnPartitionParts.j2]
    by_cases hb : b = true
    · rw [if_pos hb]
    rw [if_neg hb, hp, hq]
    simp only [Option.bind_some]
    obtain ⟨a1, a2, a3⟩ := mp
    obtain ⟨b1, b2, b3⟩ := mq
    rw [if_pos (by omega), if_pos (by omega), if_pos (by rw [a1]), if_pos (by omega), if_pos (by omega), if_pos (by rw [b1]), hpq]
    simpa using h3
  obtain ⟨n, rfl⟩ : ∃ m, k = m + 1 := ⟨k - 1, by omega⟩
  have hat : laws_at.f n s t 0 = xstrings_zzIndex.f n s t := at_same s t n 0
  rcases part_at s t hs ht (n + 1) (by omega) with ⟨_, h2, h3⟩ | ⟨j, _, h2, h3, h4, h5⟩
  · rcases last_at s t hs ht (n + 1) (by omega) with ⟨g2, _⟩ | ⟨i, _, g3, g4, _⟩
    · refine core _ _ h2 g2 (makes_head s) (makes_tail s) rfl ?_
      simp only [laws_FnPartitionParts.j3]
      rcases part_at s t hs ht n (by omega) with ⟨k1, _⟩ | ⟨i, _, _, k3, k4, _⟩
      · rw [hat, k1]
        simp
      · exact absurd k4 (h3 i k3)
    · exact absurd g4 (h3 i g3)
  · rcases last_at s t hs ht (n + 1) (by omega) with ⟨_, g3⟩ | ⟨i, g2, g3, g4, g5⟩
    · exact absurd h4 (g3 j h3)
    · refine core _ _ h2 g2 (makes_at s _ _ (by omega) h3) (makes_at s _ _ (by omega) g3) ?_ ?_
      · have e1 : (s.extract j (j + t.size)).toList = (s.extract i (i + t.size)).toList := h4.trans g4.symm
        apply ByteArray.ext
        apply Array.toList_inj.1
        rw [← Lib.toList_data, ← Lib.toList_data]; exact e1
      simp only [laws_FnPartitionParts.j3]
      rcases part_at s t hs ht n (by omega) with ⟨_, _, k3⟩ | ⟨a, k1, _, k3, k4, k5⟩
      · exact absurd h4 (k3 j h3)
      have haj : a = j := by
        rcases Nat.lt_trichotomy a j with h | h | h
        · exact absurd k4 (h5 a h)
        · exact h
        · exact absurd h4 (k5 j h)
      subst haj
      rw [hat, k1]
      simp only [Option.bind_some]
      rw [if_neg (by decide), if_neg (by omega), wadd a 1 (by omega) |> (fun h => (by simpa using h : wrap64 ((a : Int) + 1) = ((a + 1 : Nat) : Int)))]
      obtain ⟨r, hr, h⟩ := idx_l0 s t hs ht (s.size + 1 - (a + 1)) n (a + 1) (by omega) rfl (by omega)
      have hr' : laws_at.f n s t ((a + 1 : Nat) : Int) = some r := (at_same s t n _).trans hr
      rw [hr']
      simp only [Option.bind_some]
      rcases h with ⟨r1, r2⟩ | ⟨m, r1, r2, _, _, _⟩
      · rw [if_neg (by omega)]
        have hia : i = a := by
          rcases Nat.lt_trichotomy i a with h | h | h
          · exact absurd h4 (g5 a h h3)
          · exact h
          · exact absurd g4 (r2 i (by omega) g3)
        subst hia
        simp
      · rw [if_pos (by omega)]

theorem FnPartitionParts : laws_FnPartitionParts.Pure := by
  intro s t hs ht
  have hj2 := j2_true s t hs ht (s.size + 20) (by omega)
  have hj1 : laws_FnPartitionParts.j1 (s.size + 22) s t false = some true := by
    simp only [laws_FnPartitionParts.j1, laws_long.f, Option.bind_some]
    rw [if_neg (by decide)]
    split
    · exact hj2 _
    · split
      · exact hj2 _
      · exact hj2 _
  have hj0 : ∀ b, laws_FnPartitionParts.j0 (s.size + 23) s t b = some true := by
    intro b
    simp only [laws_FnPartitionParts.j0]
    by_cases hb : b = true
    · rw [if_pos hb]
    rw [if_neg hb, at_rounds (fun k => impl_Partition.mono _ _ k) (show 7 ≤ s.size + 22 by omega) hello]
    simp only [Option.bind_some]
    rw [if_pos (by decide +kernel), if_pos (by decide +kernel), show ((⟨#[108, 108, 111]⟩ : ByteArray).toList != ([108, 108, 111] : List UInt8)) = false by decide +kernel]
    exact hj1
  refine ⟨s.size + 23, ?_⟩
  unfold laws_FnPartitionParts.f
  split <;> exact hj0 _

end Go.Proofs.Ytobcoplfniojkaa.Pure
