/- spec.wellFormed, as printed: it ends, and what it takes is UTF-8. -/
import Derived.Test.YtcjfcjlendibpaaDoorPFnWordsSaysx3
import Derived.Test.YtcjfcjlendibpaaDoorPRowLaw
import Derived.Test.YtcjfcjlendibpaaDoorPlain
set_option linter.unusedVariables false
namespace Go.Proofs.YtcjfcjlendibpaaDoor
open Go.RowKit Plain Go.Proofs.YtcjfcjlendibpaaDoorW.PrintWords

def bN (s : ByteArray) (i : Nat) : Nat := (s.data.toList.getD i 0).toNat
theorem bt_N {s : ByteArray} {i : Nat} {z : Int} (hz : z = (i : Int)) (h : i < s.size) : bt s z = (bN s i : Int) := by
  subst hz
  rw [bt_at h]
  have hl : i < s.data.toList.length := by rw [← Lib.size_eq]; exact h
  unfold bN
  rw [List.getD_eq_getElem?_getD, List.getElem?_eq_getElem hl]
  rfl
theorem bN_lt (s : ByteArray) (i : Nat) : bN s i < 256 := (s.data.toList.getD i 0).toNat_lt
theorem wsz_l0 (s : ByteArray) (n : Nat) (hn : n ≤ s.size) (hn4 : n ≤ 4) : ∀ (d i k : Nat), i + d = n → d < k →
    ∃ r : Nat, PFnWordsSays.spec_size.l0 k s (n : Int) (i : Int) = some (r : Int) ∧ (r = 0 ∨ r = n ∧ ∀ j, i ≤ j → j < n → 128 ≤ bN s j ∧ bN s j ≤ 191)
  | 0, i, k, hd, hk => by
    obtain ⟨k, rfl⟩ : ∃ m, k = m + 1 := ⟨k - 1, by omega⟩
    refine ⟨n, ?_, .inr ⟨rfl, fun j h1 h2 => by omega⟩⟩
    rw [PFnWordsSays.spec_size.l0, if_neg (by omega)]
  | d + 1, i, k, hd, hk => by
    obtain ⟨k, rfl⟩ : ∃ m, k = m + 1 := ⟨k - 1, by omega⟩
    have hb := bt_N (s := s) (i := i) (z := (i : Int)) rfl (by omega)
    rw [PFnWordsSays.spec_size.l0, if_pos (by omega), if_pos (by omega), if_pos (by omega), hb]
    by_cases h1 : bN s i < 128
    · rw [if_pos (by omega)]; exact ⟨0, rfl, .inl rfl⟩
    · by_cases h2 : 191 < bN s i
      · rw [if_neg (by omega), if_pos (by omega)]; exact ⟨0, rfl, .inl rfl⟩
      · rw [if_neg (by omega), if_neg (by omega), wrap_nat (n := i + 1) (by omega) (by omega)]
        obtain ⟨r, hr, h⟩ := wsz_l0 s n hn hn4 d (i + 1) k (by omega) (by omega)
        refine ⟨r, hr, h.imp id fun ⟨e, h⟩ => ⟨e, fun j h3 h4 => ?_⟩⟩
        by_cases hj : j = i
        · subst hj; omega
        · exact h j (by omega) h4
def SzOk (s : ByteArray) (n lo hi : Nat) : Prop := n ≤ s.size ∧ lo ≤ bN s 1 ∧ bN s 1 ≤ hi ∧ ∀ j, 2 ≤ j → j < n → 128 ≤ bN s j ∧ bN s j ≤ 191
theorem wsz_j3 (s : ByteArray) (n lo hi : Nat) (hn : n = 0 ∨ 2 ≤ n) (hn4 : n ≤ 4) (m : Nat) :
    ∃ r : Nat, PFnWordsSays.spec_size.j3 (m + 6) s (n : Int) (lo : Int) (hi : Int) = some (r : Int) ∧ (r = 0 ∨ r = n ∧ SzOk s n lo hi) := by
  have j4t : PFnWordsSays.spec_size.j4 (m + 5) s (n : Int) true = some ((0 : Nat) : Int) := by rw [PFnWordsSays.spec_size.j4, if_pos rfl]; rfl
  rw [PFnWordsSays.spec_size.j3]
  by_cases h0 : n = 0
  · rw [if_pos (by omega), j4t]; exact ⟨0, rfl, .inl rfl⟩
  rw [if_neg (by omega)]
  by_cases h1 : s.size < n
  · rw [if_pos (by omega), j4t]; exact ⟨0, rfl, .inl rfl⟩
  rw [if_neg (by omega), if_pos (by omega), bt_N (i := 1) (z := 1) rfl (by omega)]
  by_cases h2 : bN s 1 < lo
  · rw [if_pos (by omega), j4t]; exact ⟨0, rfl, .inl rfl⟩
  rw [if_neg (by omega)]
  by_cases h3 : hi < bN s 1
  · rw [decide_eq_true (by omega), j4t]; exact ⟨0, rfl, .inl rfl⟩
  rw [decide_eq_false (by omega), PFnWordsSays.spec_size.j4, if_neg (by decide)]
  obtain ⟨r, hr, h⟩ := wsz_l0 s n (by omega) hn4 (n - 2) 2 (m + 4) (by omega) (by omega)
  exact ⟨r, hr, h.imp id fun ⟨e, h⟩ => ⟨e, by omega, by omega, by omega, h⟩⟩
def loOf (b : Nat) : Nat := if b = 224 then 160 else if b = 240 then 144 else 128
def hiOf (b : Nat) : Nat := if b = 237 then 159 else if b = 244 then 143 else 191
theorem wsz_j2 (s : ByteArray) (b n : Nat) (hn : n = 0 ∨ 2 ≤ n) (hn4 : n ≤ 4) (m : Nat) :
    ∃ r : Nat, PFnWordsSays.spec_size.j2 (m + 7) s (b : Int) (n : Int) 128 191 = some (r : Int) ∧ (r = 0 ∨ r = n ∧ SzOk s n (loOf b) (hiOf b)) := by
  rw [PFnWordsSays.spec_size.j2]
  by_cases h1 : b = 224
  · subst h1; rw [if_pos (by omega)]; exact wsz_j3 s n 160 191 hn hn4 m
  rw [if_neg (by omega)]
  by_cases h2 : b = 237
  · subst h2; rw [if_pos (by omega)]; exact wsz_j3 s n 128 159 hn hn4 m
  rw [if_neg (by omega)]
  by_cases h3 : b = 240
  · subst h3; rw [if_pos (by omega)]; exact wsz_j3 s n 144 191 hn hn4 m
  rw [if_neg (by omega)]
  by_cases h4 : b = 244
  · subst h4; rw [if_pos (by omega)]; exact wsz_j3 s n 128 143 hn hn4 m
  rw [if_neg (by omega)]
  have e1 : loOf b = 128 := by unfold loOf; rw [if_neg h1, if_neg h3]
  have e2 : hiOf b = 191 := by unfold hiOf; rw [if_neg h2, if_neg h4]
  rw [e1, e2]
  exact wsz_j3 s n 128 191 hn hn4 m
def nOf (b : Nat) : Nat := if b < 128 then 1 else if b < 194 then 0 else if b ≤ 223 then 2 else if b ≤ 239 then 3 else if b ≤ 244 then 4 else 0
theorem wsz_f (s : ByteArray) (hs : 0 < s.size) (m : Nat) :
    ∃ r : Nat, PFnWordsSays.spec_size.f (m + 9) s = some (r : Int) ∧ r ≤ 4 ∧ (r = 0 ∨ r = 1 ∧ bN s 0 < 128 ∨ r = nOf (bN s 0) ∧ 128 ≤ bN s 0 ∧ SzOk s r (loOf (bN s 0)) (hiOf (bN s 0))) := by
  unfold PFnWordsSays.spec_size.f
  rw [if_pos (by omega), bt_N (i := 0) (z := 0) rfl hs]
  by_cases h1 : bN s 0 < 128
  · rw [if_pos (by omega)]; exact ⟨1, rfl, by decide, .inr (.inl ⟨rfl, h1⟩)⟩
  rw [if_neg (by omega)]
  have fin : ∀ n, (n = 0 ∨ 2 ≤ n) → n ≤ 4 → nOf (bN s 0) = n → ∀ k, ∃ r : Nat, PFnWordsSays.spec_size.j2 (k + 7) s (bN s 0 : Int) (n : Int) 128 191 = some (r : Int) ∧ r ≤ 4 ∧ (r = 0 ∨ r = 1 ∧ bN s 0 < 128 ∨ r = nOf (bN s 0) ∧ 128 ≤ bN s 0 ∧ SzOk s r (loOf (bN s 0)) (hiOf (bN s 0))) := by
    intro n hn hn4 he k
    obtain ⟨r, hr, h⟩ := wsz_j2 s (bN s 0) n hn hn4 k
    refine ⟨r, hr, by omega, ?_⟩
    rcases h with h | ⟨h, h5⟩
    · exact .inl h
    · subst h; exact .inr (.inr ⟨he.symm, by omega, h5⟩)
  by_cases h2 : bN s 0 < 194
  · rw [if_neg (by omega), PFnWordsSays.spec_size.j0, if_neg (by decide), if_neg (by omega), PFnWordsSays.spec_size.j1, if_neg (by decide), if_neg (by omega)]
    exact fin 0 (.inl rfl) (by decide) (by unfold nOf; rw [if_neg h1, if_pos h2]) m
  rw [if_pos (by omega)]
  by_cases h3 : bN s 0 ≤ 223
  · rw [decide_eq_true (by omega), PFnWordsSays.spec_size.j0, if_pos rfl]
    exact fin 2 (.inr (by decide)) (by decide) (by unfold nOf; rw [if_neg h1, if_neg h2, if_pos h3]) (m + 1)
  rw [decide_eq_false (by omega), PFnWordsSays.spec_size.j0, if_neg (by decide), if_pos (by omega)]
  by_cases h4 : bN s 0 ≤ 239
  · rw [decide_eq_true (by omega), PFnWordsSays.spec_size.j1, if_pos rfl]
    exact fin 3 (.inr (by decide)) (by decide) (by unfold nOf; rw [if_neg h1, if_neg h2, if_neg h3, if_pos h4]) m
  rw [decide_eq_false (by omega), PFnWordsSays.spec_size.j1, if_neg (by decide), if_pos (by omega)]
  by_cases h5 : bN s 0 ≤ 244
  · rw [if_pos (by omega)]
    exact fin 4 (.inr (by decide)) (by decide) (by unfold nOf; rw [if_neg h1, if_neg h2, if_neg h3, if_neg h4, if_pos h5]) m
  · rw [if_neg (by omega)]
    exact fin 0 (.inl rfl) (by decide) (by unfold nOf; rw [if_neg h1, if_neg h2, if_neg h3, if_neg h4, if_neg h5]) m
/-- what spec.size takes is a whole form of UTF-8 -/
theorem wsz_good (s : ByteArray) (hs : 0 < s.size) (m : Nat) :
    ∃ r : Nat, PFnWordsSays.spec_size.f (m + 9) s = some (r : Int) ∧ r ≤ s.size ∧ (r = 0 ∨ 0 < r ∧ Plain.Good (s.data.toList.take r)) := by
  obtain ⟨r, hr, hr4, h⟩ := wsz_f s hs m
  have hne : s.data.toList ≠ [] := by intro e; have h9 := Lib.size_eq s; rw [e] at h9; have h8 : s.size = 0 := h9; omega
  have hN := Lib.decodeL_N s.data.toList
  have hz := Lib.size_eq s
  have goal : ∀ n, (Lib.decodeL s.data.toList).2 = n → ¬ ((Lib.decodeL s.data.toList).1 = 65533 ∧ (Lib.decodeL s.data.toList).2 = 1) → Plain.Good (s.data.toList.take n) := by
    intro n h1 h2
    have := good_take s.data.toList hne h2
    rwa [h1] at this
  have b0 := bN_lt s 0
  have b1 := bN_lt s 1
  rcases h with h | ⟨h, h0⟩ | ⟨h, h0, h1, h2, h3, h4⟩
  · exact ⟨r, hr, by omega, .inl h⟩
  · subst h
    have e : Lib.decodeL s.data.toList = (bN s 0, 1) := by rw [hN]; exact decodeN_ascii' _ _ _ _ _ h0
    exact ⟨1, hr, hs, .inr ⟨by decide, goal 1 (by rw [e]) (by rw [e]; dsimp only; omega)⟩⟩
  · refine ⟨r, hr, h1, ?_⟩
    by_cases c1 : bN s 0 < 194
    · left; rw [h]; unfold nOf; rw [if_neg (by omega), if_pos c1]
    by_cases c2 : bN s 0 ≤ 223
    · have er : r = 2 := by rw [h]; unfold nOf; rw [if_neg (by omega), if_neg c1, if_pos c2]
      subst er
      have elo : loOf (bN s 0) = 128 := by unfold loOf; rw [if_neg (by omega), if_neg (by omega)]
      have ehi : hiOf (bN s 0) = 191 := by unfold hiOf; rw [if_neg (by omega), if_neg (by omega)]
      rw [elo] at h2
      rw [ehi] at h3
      have e : Lib.decodeL s.data.toList = (bN s 0 % 32 * 64 + bN s 1 % 64, 2) := by
        rw [hN]; exact decodeN_two _ (bN s 0) (bN s 1) _ _ (by omega) (by omega) (by omega) (by omega)
      exact .inr ⟨by decide, goal 2 (by rw [e]) (by rw [e]; dsimp only; omega)⟩
    by_cases c3 : bN s 0 ≤ 239
    · have er : r = 3 := by rw [h]; unfold nOf; rw [if_neg (by omega), if_neg c1, if_neg c2, if_pos c3]
      subst er
      have h5 := h4 2 (by decide) (by decide)
      have elo : (bN s 0 = 224 → 160 ≤ bN s 1) ∧ 128 ≤ bN s 1 := by
        unfold loOf at h2
        split at h2
        · exact ⟨fun _ => h2, by omega⟩
        · rw [if_neg (by omega)] at h2; exact ⟨fun e => by omega, h2⟩
      have ehi : (bN s 0 = 237 → bN s 1 ≤ 159) ∧ bN s 1 ≤ 191 := by
        unfold hiOf at h3
        split at h3
        · exact ⟨fun _ => h3, by omega⟩
        · rw [if_neg (by omega)] at h3; exact ⟨fun e => by omega, h3⟩
      have e : Lib.decodeL s.data.toList = (bN s 0 % 16 * 4096 + bN s 1 % 64 * 64 + bN s 2 % 64, 3) := by
        rw [hN]; exact decodeN_three _ (bN s 0) (bN s 1) (bN s 2) _ (by omega) (by omega) (by omega) (by omega) (by omega) (by omega)
      exact .inr ⟨by decide, goal 3 (by rw [e]) (by rw [e]; dsimp only; omega)⟩
    by_cases c4 : bN s 0 ≤ 244
    · have er : r = 4 := by rw [h]; unfold nOf; rw [if_neg (by omega), if_neg c1, if_neg c2, if_neg c3, if_pos c4]
      subst er
      have h5 := h4 2 (by decide) (by decide)
      have h6 := h4 3 (by decide) (by decide)
      have elo : (bN s 0 = 240 → 144 ≤ bN s 1) ∧ 128 ≤ bN s 1 := by
        unfold loOf at h2
        rw [if_neg (by omega)] at h2
        split at h2
        · exact ⟨fun _ => h2, by omega⟩
        · exact ⟨fun e => by omega, h2⟩
      have ehi : (bN s 0 = 244 → bN s 1 ≤ 143) ∧ bN s 1 ≤ 191 := by
        unfold hiOf at h3
        rw [if_neg (by omega)] at h3
        split at h3
        · exact ⟨fun _ => h3, by omega⟩
        · exact ⟨fun e => by omega, h3⟩
      have e : Lib.decodeL s.data.toList = (bN s 0 % 8 * 262144 + bN s 1 % 64 * 4096 + bN s 2 % 64 * 64 + bN s 3 % 64, 4) := by
        rw [hN]; exact decodeN_four _ (bN s 0) (bN s 1) (bN s 2) (bN s 3) (by omega) (by omega) (by omega) (by omega) (by omega) (by omega) (by omega)
      exact .inr ⟨by decide, goal 4 (by rw [e]) (by rw [e]; dsimp only; omega)⟩
    · left; rw [h]; unfold nOf; rw [if_neg (by omega), if_neg c1, if_neg c2, if_neg c3, if_neg c4]
theorem wf_l0 (s : ByteArray) (hs : s.size ≤ 4096) : ∀ (d i m : Nat), i ≤ s.size → s.size ≤ i + d → d ≤ m →
    ∃ b, PFnWordsSays.spec_wellFormed.l0 (m + 11) s (i : Int) = some b ∧ (b = true → Lib.validD (s.data.toList.drop i) = true)
  | 0, i, m, hi, hd, hm => by
    rw [PFnWordsSays.spec_wellFormed.l0, if_neg (by omega), List.drop_eq_nil_of_le (by rw [← Lib.size_eq]; omega)]
    exact ⟨true, rfl, fun _ => rfl⟩
  | d + 1, i, m, hi, hd, hm => by
    rw [PFnWordsSays.spec_wellFormed.l0]
    by_cases hlt : i < s.size
    · rw [if_pos (by omega), if_pos (by omega), if_pos (by omega)]
      obtain ⟨m', rfl⟩ : ∃ m', m = m' + 1 := ⟨m - 1, by omega⟩
      have ez : (s.extract (i : Int).toNat s.size).size = s.size - i := by simp
      have ed : (s.extract (i : Int).toNat s.size).data.toList = s.data.toList.drop i := by
        rw [← Lib.toList_data, Lib.extract_toList]
        rw [List.take_of_length_le (by rw [List.length_drop, ← Lib.size_eq]; exact Nat.le_refl _)]
        rfl
      obtain ⟨r, hr, hrs, h⟩ := wsz_good (s.extract (i : Int).toNat s.size) (by omega) (m' + 2)
      rw [ez] at hrs
      rw [ed] at h
      rw [show m' + 1 + 10 = m' + 2 + 9 by omega, hr]
      show ∃ b, (if (r : Int) = 0 then some false else _) = some b ∧ _
      by_cases h0 : r = 0
      · rw [if_pos (by omega)]; exact ⟨false, rfl, fun h => by cases h⟩
      · rcases h with h | ⟨_, hg⟩
        · exact absurd h h0
        rw [if_neg (by omega), wrap_nat (n := i + r) (by omega) (by omega)]
        obtain ⟨b, hb, hv⟩ := wf_l0 s hs d (i + r) m' (by omega) (by omega) (by omega)
        rw [show m' + 2 + 9 = m' + 11 by omega, hb]
        refine ⟨b, rfl, fun e => ?_⟩
        have h1 := valid_cons_good _ ((s.data.toList.drop i).drop r) hg
        rw [List.take_append_drop, List.drop_drop, hv e] at h1
        exact h1
    · rw [if_neg (by omega), List.drop_eq_nil_of_le (by rw [← Lib.size_eq]; omega)]
      exact ⟨true, rfl, fun _ => rfl⟩
theorem wf_f (s : ByteArray) (hs : s.size ≤ 4096) (m : Nat) (hm : s.size ≤ m) : ∃ b, PFnWordsSays.spec_wellFormed.f (m + 11) s = some b ∧ (b = true → Lib.validD s.data.toList = true) := by
  obtain ⟨b, h1, h2⟩ := wf_l0 s hs s.size 0 m (Nat.zero_le _) (by omega) hm
  exact ⟨b, h1, by simpa using h2⟩
end Go.Proofs.YtcjfcjlendibpaaDoor

set_option linter.unusedVariables false
namespace Go.Proofs.YtcjfcjlendibpaaDoor
open Go.RowKit Plain Go.Proofs.YtcjfcjlendibpaaDoorW.PrintWords

/-- a byte that is said -/
def clearB (env cmt : Bool) (c : Nat) : Prop := c ≠ 40 ∧ c ≠ 41 ∧ c ≠ 96 ∧ c ≠ 11 ∧ c ≠ 12 ∧ (env = true → c ≠ 36) ∧ (cmt = true → c ≠ 35)
theorem un_j1 (s : ByteArray) (env cmt : Bool) (n i : Int) (x : Nat) (R : Bool → Prop) (k : Nat)
    (hR : ∀ (h1 : env = true → x ≠ 36) (h2 : cmt = true → x ≠ 35), ∃ b, PFnWordsSays.spec_unclear.l0 k s env cmt n (wrap64 (i + 1)) = some b ∧ (b = false → R b)) :
    ∃ b, PFnWordsSays.spec_unclear.j1 (k + 1) s env cmt n i (x : Int) false = some b ∧ (b = false → (env = true → x ≠ 36) ∧ (cmt = true → x ≠ 35) ∧ R b) := by
  rw [PFnWordsSays.spec_unclear.j1, if_neg (by decide)]
  by_cases h1 : x = 36
  · rw [if_pos (by omega)]
    cases env with
    | true => rw [if_pos rfl]; exact ⟨true, rfl, fun h => by cases h⟩
    | false =>
      rw [if_neg (by decide)]
      obtain ⟨b, hb, h⟩ := hR (fun h => by cases h) (fun _ => by omega)
      exact ⟨b, hb, fun e => ⟨(fun h => by cases h), (fun _ => by omega), h e⟩⟩
  · rw [if_neg (by omega)]
    by_cases h2 : x = 35
    · rw [if_pos (by omega)]
      cases cmt with
      | true => rw [if_pos rfl]; exact ⟨true, rfl, fun h => by cases h⟩
      | false =>
        rw [if_neg (by decide)]
        obtain ⟨b, hb, h⟩ := hR (fun _ => h1) (fun h => by cases h)
        exact ⟨b, hb, fun e => ⟨(fun _ => h1), (fun h => by cases h), h e⟩⟩
    · rw [if_neg (by omega)]
      obtain ⟨b, hb, h⟩ := hR (fun _ => h1) (fun _ => h2)
      exact ⟨b, hb, fun e => ⟨fun _ => h1, fun _ => h2, h e⟩⟩
theorem un_l0 (s : ByteArray) (env cmt : Bool) (hs : s.size ≤ 4096) : ∀ (d i k : Nat), i + d = s.size → 2 * d + s.size + 12 ≤ k →
    ∃ b, PFnWordsSays.spec_unclear.l0 k s env cmt (s.size : Int) (i : Int) = some b ∧ (b = false → Lib.validD s.data.toList = true ∧ ∀ j, i ≤ j → j < s.size → clearB env cmt (bN s j))
  | 0, i, k, hd, hk => by
    obtain ⟨m, rfl⟩ : ∃ m, k = m + 11 + 1 := ⟨k - 12, by omega⟩
    rw [PFnWordsSays.spec_unclear.l0, if_neg (by omega)]
    obtain ⟨b, hb, h⟩ := wf_f s hs m (by omega)
    rw [hb]
    refine ⟨!b, rfl, fun e => ⟨h (by simpa using e), fun j h1 h2 => by omega⟩⟩
  | d + 1, i, k, hd, hk => by
    obtain ⟨k, rfl⟩ : ∃ m, k = m + 1 + 1 := ⟨k - 2, by omega⟩
    rw [PFnWordsSays.spec_unclear.l0, if_pos (by omega), if_pos (by omega), if_pos (by omega), bt_N (i := i) (z := (i : Int)) rfl (by omega)]
    have no : ∀ (x : Int), (x == x) = true := fun x => by simp
    have yes : ∀ y : Bool, y = true → ∃ b, PFnWordsSays.spec_unclear.j1 (k + 1) s env cmt (s.size : Int) (i : Int) (bN s i : Int) y = some b ∧ (b = false → Lib.validD s.data.toList = true ∧ ∀ j, i ≤ j → j < s.size → clearB env cmt (bN s j)) := by
      intro y hy
      rw [PFnWordsSays.spec_unclear.j1, if_pos hy]
      exact ⟨true, rfl, fun h => by cases h⟩
    by_cases c1 : bN s i = 40
    · rw [if_pos (by omega)]; exact yes _ (by simp [c1])
    rw [if_neg (by omega)]
    by_cases c2 : bN s i = 41
    · rw [if_pos (by omega)]; exact yes _ (by simp [c2])
    rw [if_neg (by omega)]
    by_cases c3 : bN s i = 96
    · rw [if_pos (by omega)]; exact yes _ (by simp [c3])
    rw [if_neg (by omega)]
    by_cases c4 : bN s i = 11
    · rw [if_pos (by omega)]; exact yes _ (by simp [c4])
    rw [if_neg (by omega)]
    by_cases c5 : bN s i = 12
    · exact yes _ (by simp [c5])
    have e5 : ((bN s i : Int) == 12) = false := by rw [beq_eq_false_iff_ne]; omega
    rw [e5]
    obtain ⟨b, hb, h⟩ := un_j1 s env cmt (s.size : Int) (i : Int) (bN s i) (fun b => Lib.validD s.data.toList = true ∧ ∀ j, i + 1 ≤ j → j < s.size → clearB env cmt (bN s j)) k (fun _ _ => by
      rw [wrap_nat (n := i + 1) (by omega) (by omega)]
      exact un_l0 s env cmt hs d (i + 1) k (by omega) (by omega))
    refine ⟨b, hb, fun e => ?_⟩
    obtain ⟨h1, h2, h3, h4⟩ := h e
    refine ⟨h3, fun j hj1 hj2 => ?_⟩
    by_cases hj : j = i
    · subst hj; exact ⟨c1, c2, c3, c4, c5, h1, h2⟩
    · exact h4 j (by omega) hj2
theorem un_at (s : ByteArray) (env cmt : Bool) (hs : s.size ≤ 4096) : ∃ b, (∀ w : World, Calls Tryd.prog 30 #[.string s, .bool env, .bool cmt] w fun e w' => e = .returned (.bool b) ∧ Below w.heap.size w w') ∧
    (b = false → Lib.validD s.data.toList = true ∧ ∀ c ∈ s.data.toList, clearB env cmt c.toNat) := by
  obtain ⟨b, hb, h⟩ := un_l0 s env cmt hs s.size 0 (3 * s.size + 12) (by omega) (by omega)
  refine ⟨b, fun w => (PFnWordsSays.spec_unclear.calls (3 * s.size + 12) s env cmt b w hb).mono fun e w' ⟨he, hd⟩ => ⟨he, hd.below⟩, fun e => ?_⟩
  obtain ⟨h1, h2⟩ := h e
  refine ⟨h1, fun c hc => ?_⟩
  obtain ⟨j, hj⟩ := List.mem_iff_getElem?.1 hc
  have hl := (List.getElem?_eq_some_iff.1 hj).1
  have := h2 j (Nat.zero_le _) (by rw [Lib.size_eq]; exact hl)
  unfold bN at this
  rw [List.getD_eq_getElem?_getD, hj] at this
  exact this
end Go.Proofs.YtcjfcjlendibpaaDoor
