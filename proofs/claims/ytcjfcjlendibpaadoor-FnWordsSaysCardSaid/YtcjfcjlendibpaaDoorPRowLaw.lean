/- Printed functions on rows of texts, in plain words: zzFits1, size, seen, joined, has. -/
import Derived.Test.YtcjfcjlendibpaaDoorPFnWordsQuotedx1
import Derived.Test.YtcjfcjlendibpaaDoorPFnWordsQuotedx2
import Derived.Test.YtcjfcjlendibpaaDoorPOneLaw
import Derived.Test.YtcjfcjlendibpaaDoorShellLaw
import Derived.Test.YtcjfcjlendibpaaDoorPOne
set_option linter.unusedVariables false
namespace Go.Proofs.YtcjfcjlendibpaaDoor
open Go.RowKit Plain Go.Proofs.YtcjfcjlendibpaaDoorW.PrintWords

theorem kc_addr (w : World) (a : Addr) (n : Nat) (l : List ByteArray) (hn : l.length = n) (hb : n ≤ 9223372036854775807) (h : ∀ k x, l[k]? = some x → w.cell? (a.add k) = some (.string x)) : Kd.string.C w (some a) n l := by
  refine ⟨hn, by omega, fun _ => ⟨a, rfl, fun j p hj => ⟨[.string p], rfl, rfl, fun i u hu => ?_⟩⟩⟩
  match i, hu with
  | 0, hu =>
    simp at hu
    subst hu
    have := h j p hj
    have e : j * Kd.string.sz + 0 = j := by have : Kd.string.sz = 1 := rfl; rw [this]; omega
    rw [e]
    exact this
theorem kc_ownB {w : World} {B g n c : Nat} {l : List ByteArray} (h : w.ownsRow B 9 1 (.slice (some ⟨g, 0, none⟩) n c) n (l.map Value.string)) (hn : l.length = n) (hb : n ≤ 4611686018427387904) : Kd.string.C w (some ⟨g, 0, none⟩) n l := by
  refine kc_row w g n l hn hb fun k x hx => ?_
  have := h.cells (g := g) rfl k (.string x) (by simp [hx])
  rwa [Addr.add_lit, Nat.zero_add] at this
def szSum : List ByteArray → Nat
  | [] => 0
  | x :: l => x.size + szSum l
theorem szSum_drop {l : List ByteArray} {i : Nat} (h : i < l.length) : szSum (l.drop i) = l[i].size + szSum (l.drop (i + 1)) := by
  rw [List.drop_eq_getElem_cons h]; rfl
theorem szSum_mem {l : List ByteArray} {x : ByteArray} (h : x ∈ l) : x.size ≤ szSum l := by
  induction l with
  | nil => cases h
  | cons y l ih =>
    rcases List.mem_cons.1 h with rfl | h
    · exact Nat.le_add_right _ _
    · exact Nat.le_trans (ih h) (Nat.le_add_left _ _)
theorem szSum_le (l : List ByteArray) (m : Nat) (h : ∀ x ∈ l, x.size ≤ m) : szSum l ≤ l.length * m := by
  induction l with
  | nil => exact Nat.zero_le _
  | cons y l ih =>
    have h1 := ih fun x hx => h x (by simp [hx])
    have h2 := h y (by simp)
    rw [List.length_cons, Nat.succ_mul]
    show y.size + szSum l ≤ _
    omega
theorem szSum_drop_le (l : List ByteArray) (i : Nat) : szSum (l.drop i) ≤ szSum l := by
  induction l generalizing i with
  | nil => simp [szSum]
  | cons y l ih =>
    cases i with
    | zero => exact Nat.le_refl _
    | succ i => exact Nat.le_trans (ih i) (Nat.le_add_left _ _)
theorem rd_at {l : List ByteArray} {i : Nat} (h : i < l.length) : rdOf ByteArray.empty l (i : Int) = l[i] := by simp [rdOf, List.getD, h]
theorem wrap_nat {n : Nat} {x : Int} (h : x = (n : Int)) (hn : n < 9223372036854775808) : wrap64 x = (n : Int) := by subst h; unfold wrap64; omega
theorem bt_at {s : ByteArray} {i : Nat} (h : i < s.size) : bt s (i : Int) = ((s.data.toList[i]'(by rw [← Lib.size_eq]; exact h)).toNat : Int) := by
  unfold bt
  rw [dif_pos (by simpa using h)]
  rfl
/-! ### zzFits1 -/
def fitsR (l : List ByteArray) : Bool := l.all fun x => decide (x.size ≤ 2147483647)
theorem fits_l0 (l : List ByteArray) (hn : l.length ≤ 4611686018427387904) : ∀ (d i k : Nat), i + d = l.length → d < k →
    PFnWordsQuoted.laws_zzFits1.l0 k l (l.length : Int) (i : Int) = some (fitsR (l.drop i))
  | 0, i, k, hd, hk => by
    obtain ⟨k, rfl⟩ : ∃ m, k = m + 1 := ⟨k - 1, by omega⟩
    rw [PFnWordsQuoted.laws_zzFits1.l0, if_neg (by omega), List.drop_eq_nil_of_le (by omega)]
    rfl
  | d + 1, i, k, hd, hk => by
    obtain ⟨k, rfl⟩ : ∃ m, k = m + 1 := ⟨k - 1, by omega⟩
    have h1 : i < l.length := by omega
    have e1 : l.drop i = l[i] :: l.drop (i + 1) := List.drop_eq_getElem_cons h1
    rw [PFnWordsQuoted.laws_zzFits1.l0, if_pos (by omega), if_pos (by omega), if_pos (by omega), rd_at h1, wrap_nat (n := i + 1) (by omega) (by omega), fits_l0 l hn d (i + 1) k (by omega) (by omega), e1]
    unfold fitsR
    rw [List.all_cons]
    by_cases hb : l[i].size ≤ 2147483647
    · rw [if_neg (by omega), decide_eq_true hb, Bool.true_and]
    · rw [if_pos (by omega), decide_eq_false hb, Bool.false_and]
theorem fits_f (l : List ByteArray) : PFnWordsQuoted.laws_zzFits1.f (l.length + 1) l = some (decide (l.length ≤ 2147483647) && fitsR l) := by
  unfold PFnWordsQuoted.laws_zzFits1.f
  by_cases h : l.length ≤ 2147483647
  · rw [if_neg (by omega), decide_eq_true h, Bool.true_and]
    have := fits_l0 l (by omega) l.length 0 (l.length + 1) (by omega) (by omega)
    simpa using this
  · rw [if_pos (by omega), decide_eq_false h, Bool.false_and]
/-! ### size -/
theorem size_l0 (l : List ByteArray) (hn : l.length ≤ 4611686018427387904) : ∀ (d i k n : Nat), i + d = l.length → d < k → n + szSum (l.drop i) < 9223372036854775808 →
    PFnWordsQuoted.laws_size.l0 k (n : Int) l (l.length : Int) (i : Int) = some ((n + szSum (l.drop i) : Nat) : Int)
  | 0, i, k, n, hd, hk, hz => by
    obtain ⟨k, rfl⟩ : ∃ m, k = m + 1 := ⟨k - 1, by omega⟩
    rw [PFnWordsQuoted.laws_size.l0, if_neg (by omega), List.drop_eq_nil_of_le (by omega)]
    rfl
  | d + 1, i, k, n, hd, hk, hz => by
    obtain ⟨k, rfl⟩ : ∃ m, k = m + 1 := ⟨k - 1, by omega⟩
    have h1 : i < l.length := by omega
    have e1 := szSum_drop h1
    rw [PFnWordsQuoted.laws_size.l0, if_pos (by omega), if_pos (by omega), if_pos (by omega), rd_at h1, wrap_nat (n := n + l[i].size) (by omega) (by omega), wrap_nat (n := i + 1) (by omega) (by omega), size_l0 l hn d (i + 1) k (n + l[i].size) (by omega) (by omega) (by omega), e1]
    congr 2
    omega
theorem size_f (l : List ByteArray) (hn : l.length ≤ 2147483647) (hf : fitsR l = true) (k : Nat) (hk : l.length < k) : PFnWordsQuoted.laws_size.f k l = some ((l.length + szSum l : Nat) : Int) := by
  have hm : ∀ x ∈ l, x.size ≤ 2147483647 := fun x hx => by have := List.all_eq_true.1 hf x hx; simpa using this
  have h1 := szSum_le l 2147483647 hm
  have h2 : l.length * 2147483647 ≤ 2147483647 * 2147483647 := Nat.mul_le_mul_right _ hn
  have := size_l0 l (by omega) l.length 0 k l.length (by omega) hk (by rw [List.drop_zero]; omega)
  simpa [PFnWordsQuoted.laws_size.f] using this
/-! ### seen -/
def seenB (x : ByteArray) : Bool := x.data.toList.all fun c => decide (32 ≤ c.toNat) && decide (c.toNat < 127)
theorem seen_l1 (x0 l : List ByteArray) (x : ByteArray) (hx : x.size ≤ 2147483647) (i : Nat) (hi : i < l.length) (hl : l.length ≤ 2147483647) (R : Option Bool) (K : Nat)
    (hR : ∀ k, K ≤ k → PFnWordsQuoted.laws_seen.l0 k x0 l (l.length : Int) ((i + 1 : Nat) : Int) = R) : ∀ (d j k : Nat), j + d = x.size → K + d < k →
    PFnWordsQuoted.laws_seen.l1 k x0 x (j : Int) l (l.length : Int) (i : Int) = if ((x.data.toList.drop j).all fun c => decide (32 ≤ c.toNat) && decide (c.toNat < 127)) = true then R else some false
  | 0, j, k, hd, hk => by
    obtain ⟨k, rfl⟩ : ∃ m, k = m + 1 := ⟨k - 1, by omega⟩
    have hz := Lib.size_eq x
    rw [PFnWordsQuoted.laws_seen.l1, if_neg (by omega), wrap_nat (n := i + 1) (by omega) (by omega), hR k (by omega), List.drop_eq_nil_of_le (by omega)]
    rfl
  | d + 1, j, k, hd, hk => by
    obtain ⟨k, rfl⟩ : ∃ m, k = m + 1 := ⟨k - 1, by omega⟩
    have hz := Lib.size_eq x
    have h1 : j < x.data.toList.length := by omega
    rw [PFnWordsQuoted.laws_seen.l1, if_pos (by omega), if_pos (by omega), bt_at (by omega), wrap_nat (n := j + 1) (by omega) (by omega), seen_l1 x0 l x hx i hi hl R K hR d (j + 1) k (by omega) (by omega), List.drop_eq_getElem_cons h1, List.all_cons]
    generalize x.data.toList[j] = c
    by_cases c1 : 32 ≤ c.toNat
    · by_cases c2 : c.toNat < 127
      · rw [if_neg (by omega), if_neg (by omega), decide_eq_true c1, decide_eq_true c2, Bool.true_and, Bool.true_and]
      · rw [if_neg (by omega), if_pos (by omega), decide_eq_true c1, decide_eq_false c2]
        rfl
    · rw [if_pos (by omega), decide_eq_false c1]
      rfl
theorem seen_l0 (l : List ByteArray) (hl : l.length ≤ 2147483647) (hf : fitsR l = true) : ∀ (d i k : Nat), i + d = l.length → szSum (l.drop i) + 2 * d + l.length + 2 ≤ k →
    PFnWordsQuoted.laws_seen.l0 k l l (l.length : Int) (i : Int) = some ((l.drop i).all seenB && decide (l.length + szSum l ≤ 1000))
  | 0, i, k, hd, hk => by
    obtain ⟨k, rfl⟩ : ∃ m, k = m + 1 := ⟨k - 1, by omega⟩
    rw [PFnWordsQuoted.laws_seen.l0, if_neg (by omega), size_f l hl hf k (by omega), List.drop_eq_nil_of_le (by omega)]
    show some (decide (((l.length + szSum l : Nat) : Int) ≤ 1000)) = some (true && _)
    rw [Bool.true_and]
    congr 1
    rw [decide_eq_decide]
    omega
  | d + 1, i, k, hd, hk => by
    obtain ⟨k, rfl⟩ : ∃ m, k = m + 1 := ⟨k - 1, by omega⟩
    have h1 : i < l.length := by omega
    have e1 := szSum_drop h1
    have hx : l[i].size ≤ 2147483647 := by have := List.all_eq_true.1 hf l[i] (List.getElem_mem h1); simpa using this
    rw [PFnWordsQuoted.laws_seen.l0, if_pos (by omega), if_pos (by omega), if_pos (by omega), rd_at h1]
    have := seen_l1 l l l[i] hx i h1 hl _ (szSum (l.drop (i + 1)) + 2 * d + l.length + 2) (fun k hk => seen_l0 l hl hf d (i + 1) k (by omega) hk) l[i].size 0 k (by omega) (by omega)
    rw [show ((0 : Nat) : Int) = 0 from rfl] at this
    rw [this, List.drop_eq_getElem_cons h1, List.all_cons, List.drop_zero]
    show _ = some (seenB l[i] && (l.drop (i + 1)).all seenB && _)
    show (if seenB l[i] = true then _ else _) = _
    cases seenB l[i] with
    | true => rw [if_pos rfl, Bool.true_and]
    | false => rw [if_neg (by decide)]; rfl
theorem seen_f (l : List ByteArray) (hl : l.length ≤ 2147483647) (hf : fitsR l = true) : PFnWordsQuoted.laws_seen.f (szSum l + 2 * l.length + l.length + 2) l = some (l.all seenB && decide (l.length + szSum l ≤ 1000)) := by
  have := seen_l0 l hl hf l.length 0 (szSum l + 2 * l.length + l.length + 2) (by omega) (by rw [List.drop_zero]; omega)
  simpa [PFnWordsQuoted.laws_seen.f] using this
/-! ### has -/
theorem has_l0 (s : ByteArray) (c : UInt8) (hs : s.size ≤ 2147483647) : ∀ (d j k : Nat), j + d = s.size → d < k →
    PFnWordsQuoted.laws_has.l0 k s (c.toNat : Int) (j : Int) = some (decide (c ∈ s.data.toList.drop j))
  | 0, j, k, hd, hk => by
    obtain ⟨k, rfl⟩ : ∃ m, k = m + 1 := ⟨k - 1, by omega⟩
    have hz := Lib.size_eq s
    rw [PFnWordsQuoted.laws_has.l0, if_neg (by omega), List.drop_eq_nil_of_le (by omega)]
    rfl
  | d + 1, j, k, hd, hk => by
    obtain ⟨k, rfl⟩ : ∃ m, k = m + 1 := ⟨k - 1, by omega⟩
    have hz := Lib.size_eq s
    have h1 : j < s.data.toList.length := by omega
    rw [PFnWordsQuoted.laws_has.l0, if_pos (by omega), if_pos (by omega), bt_at (by omega), wrap_nat (n := j + 1) (by omega) (by omega), has_l0 s c hs d (j + 1) k (by omega) (by omega), List.drop_eq_getElem_cons h1]
    generalize s.data.toList[j] = y
    by_cases hy : c = y
    · rw [if_pos (by rw [hy])]
      simp [hy]
    · rw [if_neg (fun h => hy (UInt8.toNat_inj.1 (by omega)))]
      simp [hy]
theorem has_f (s : ByteArray) (c : UInt8) (hs : s.size ≤ 2147483647) : PFnWordsQuoted.laws_has.f (s.size + 1) s (c.toNat : Int) = some (decide (c ∈ s.data.toList)) := by
  have := has_l0 s c hs s.size 0 (s.size + 1) (by omega) (by omega)
  simpa [PFnWordsQuoted.laws_has.f] using this
/-! ### joined -/
def jrest (sep : ByteArray) : List ByteArray → ByteArray
  | [] => ⟨#[]⟩
  | x :: l => sep ++ x ++ jrest sep l
def joinedB (sep : ByteArray) : List ByteArray → ByteArray
  | [] => ⟨#[]⟩
  | x :: l => x ++ jrest sep l
theorem ba_app_assoc (a b c : ByteArray) : a ++ b ++ c = a ++ (b ++ c) := ByteArray.append_assoc
theorem ba_app_nil (a : ByteArray) : a ++ ⟨#[]⟩ = a := by apply ByteArray.ext; simp
theorem ba_nil_app (a : ByteArray) : (⟨#[]⟩ : ByteArray) ++ a = a := by apply ByteArray.ext; simp
theorem joined_l0 (sep : ByteArray) (hsep : sep.size ≤ 10) (l : List ByteArray) (hl : l.length ≤ 2147483647) : ∀ (d i k : Nat) (acc : ByteArray), 0 < i → i + d = l.length → d < k → acc.size + szSum (l.drop i) + 10 * d ≤ 9223372036854775807 →
    PFnWordsQuoted.laws_joined.l0 k sep acc l (l.length : Int) (i : Int) = some (acc ++ jrest sep (l.drop i))
  | 0, i, k, acc, hi, hd, hk, hz => by
    obtain ⟨k, rfl⟩ : ∃ m, k = m + 1 := ⟨k - 1, by omega⟩
    rw [PFnWordsQuoted.laws_joined.l0, if_neg (by omega), List.drop_eq_nil_of_le (by omega), jrest, ba_app_nil]
  | d + 1, i, k, acc, hi, hd, hk, hz => by
    obtain ⟨k, rfl⟩ : ∃ m, k = m + 1 := ⟨k - 1, by omega⟩
    have h1 : i < l.length := by omega
    have e1 := szSum_drop h1
    have z1 : (acc ++ sep).size = acc.size + sep.size := ByteArray.size_append
    have z2 : (acc ++ sep ++ l[i]).size = acc.size + sep.size + l[i].size := by rw [ByteArray.size_append, z1]
    rw [PFnWordsQuoted.laws_joined.l0, if_pos (by omega), if_pos (by omega), if_pos (by omega), if_pos (by omega), if_pos (by omega), rd_at h1, if_pos (by omega), wrap_nat (n := i + 1) (by omega) (by omega), joined_l0 sep hsep l hl d (i + 1) k _ (by omega) (by omega) (by omega) (by rw [z2]; omega), List.drop_eq_getElem_cons h1, jrest]
    simp only [ba_app_assoc]
theorem joined_f (sep : ByteArray) (hsep : sep.size ≤ 10) (l : List ByteArray) (hl : l.length ≤ 2147483647) (hz : szSum l ≤ 4611686018427387904) : PFnWordsQuoted.laws_joined.f (l.length + 1) l sep = some (joinedB sep l) := by
  unfold PFnWordsQuoted.laws_joined.f
  cases l with
  | nil => rw [PFnWordsQuoted.laws_joined.l0, if_neg (by simp)]; rfl
  | cons x l =>
    have h1 : x.size + szSum l ≤ 4611686018427387904 := hz
    have hlen : (x :: l).length = l.length + 1 := rfl
    have z0 : (⟨#[]⟩ : ByteArray).size = 0 := rfl
    have e0 : rdOf ByteArray.empty (x :: l) 0 = x := rfl
    rw [PFnWordsQuoted.laws_joined.l0, if_pos (by omega), if_pos (by omega), if_pos (by omega), if_neg (by omega), e0, if_pos (by omega), ba_nil_app, wrap_nat (n := 1) (by omega) (by omega)]
    rw [joined_l0 sep hsep (x :: l) hl l.length 1 (x :: l).length x (by omega) (by omega) (by omega) (by rw [List.drop_succ_cons, List.drop_zero]; omega)]
    rfl
end Go.Proofs.YtcjfcjlendibpaaDoor

set_option linter.unusedVariables false
namespace Go.Proofs.YtcjfcjlendibpaaDoor
open Go.RowKit Plain Go.Proofs.YtcjfcjlendibpaaDoorW.PrintWords

theorem fits_at (A : Option Addr) (n c : Nat) (l : List ByteArray) (w : World) (r : Bool) (hk : Kd.string.C w A n l) (hn : l.length = n) (hc : n ≤ c) (hr : (decide (l.length ≤ 2147483647) && fitsR l) = r) :
    Calls Tryd.prog 14 #[.slice A n c] w fun e w' => e = .returned (.bool r) ∧ Below w.heap.size w w' := by
  subst hn
  exact (PFnWordsQuoted.laws_zzFits1.calls (l.length + 1) A c l r w hk hc (by rw [fits_f l, hr])).mono fun e w' ⟨he, hd⟩ => ⟨he, hd.below⟩
theorem seen_at (A : Option Addr) (n c : Nat) (l : List ByteArray) (w : World) (r : Bool) (hk : Kd.string.C w A n l) (hn : l.length = n) (hc : n ≤ c) (hl : l.length ≤ 2147483647) (hf : fitsR l = true) (hr : (l.all seenB && decide (l.length + szSum l ≤ 1000)) = r) :
    Calls Tryd.prog 15 #[.slice A n c] w fun e w' => e = .returned (.bool r) ∧ Below w.heap.size w w' := by
  subst hn
  exact (PFnWordsQuoted.laws_seen.calls (szSum l + 2 * l.length + l.length + 2) A c l r w hk hc (by rw [seen_f l hl hf, hr])).mono fun e w' ⟨he, hd⟩ => ⟨he, hd.below⟩
theorem has_at (s : ByteArray) (c : UInt8) (z : Int) (w : World) (r : Bool) (hz : z = (c.toNat : Int)) (hs : s.size ≤ 2147483647) (hr : decide (c ∈ s.data.toList) = r) :
    Calls Tryd.prog 18 #[.string s, .int .u8 z] w fun e w' => e = .returned (.bool r) ∧ Below w.heap.size w w' := by
  subst hz
  exact (PFnWordsQuoted.laws_has.calls (s.size + 1) s _ r w (by rw [has_f s c hs, hr])).mono fun e w' ⟨he, hd⟩ => ⟨he, hd.below⟩
theorem joined_at (A : Option Addr) (n c : Nat) (l : List ByteArray) (sep : ByteArray) (w : World) (r : ByteArray) (hk : Kd.string.C w A n l) (hn : l.length = n) (hc : n ≤ c) (hl : n ≤ 2147483647) (hsep : sep.size ≤ 10) (hz : szSum l ≤ 4611686018427387904) (hr : joinedB sep l = r) :
    Calls Tryd.prog 17 #[.slice A n c, .string sep] w fun e w' => e = .returned (.string r) ∧ Below w.heap.size w w' := by
  subst hn
  exact (PFnWordsQuoted.laws_joined.calls (l.length + 1) A c l sep r w hk hc (by rw [joined_f sep hsep l hl hz, hr])).mono fun e w' ⟨he, hd⟩ => ⟨he, hd.below⟩
/-! ### the joined line -/
theorem jrest_data (l : List (List UInt8)) : (jrest ⟨#[32]⟩ (baOf l)).data.toList = l.flatMap fun x => 32 :: x := by
  induction l with
  | nil => rfl
  | cons x l ih =>
    show ((⟨#[32]⟩ : ByteArray) ++ ⟨x.toArray⟩ ++ jrest ⟨#[32]⟩ (baOf l)).data.toList = _
    simp [ih]
theorem joinN_flat (c : List Nat) (l : List (List Nat)) : joinN (c :: l) = c ++ l.flatMap fun x => 32 :: x := by
  induction l generalizing c with
  | nil => simp [joinN]
  | cons d l ih =>
    show c ++ 32 :: joinN (d :: l) = _
    rw [ih d]
    simp
theorem flat_nat (l : List (List UInt8)) : (l.flatMap fun x => 32 :: x).map (·.toNat) = (l.map fun x => x.map (·.toNat)).flatMap fun x => 32 :: x := by
  induction l with
  | nil => rfl
  | cons x l ih =>
    simp only [List.flatMap_cons, List.map_append, List.map_cons, ih]
    rfl
theorem joined_data (l : List (List UInt8)) : (joinedB ⟨#[32]⟩ (baOf l)).data.toList.map (·.toNat) = joinN (l.map fun x => x.map (·.toNat)) := by
  cases l with
  | nil => rfl
  | cons x l =>
    rw [List.map_cons, joinN_flat, ← flat_nat]
    show ((⟨x.toArray⟩ : ByteArray) ++ jrest ⟨#[32]⟩ (baOf l)).data.toList.map (·.toNat) = _
    simp [jrest_data]
theorem joined_mem (l : List (List UInt8)) (h : ∀ x ∈ l, ∀ c ∈ x, c.toNat < 128) : ∀ c ∈ (joinedB ⟨#[32]⟩ (baOf l)).data.toList, c.toNat < 128 := by
  cases l with
  | nil => intro c hc; cases hc
  | cons x l =>
    intro c hc
    have e : (joinedB ⟨#[32]⟩ (baOf (x :: l))).data.toList = x ++ l.flatMap fun x => 32 :: x := by
      show ((⟨x.toArray⟩ : ByteArray) ++ jrest ⟨#[32]⟩ (baOf l)).data.toList = _
      simp [jrest_data]
    rw [e, List.mem_append, List.mem_flatMap] at hc
    rcases hc with hc | ⟨y, hy, hc⟩
    · exact h x (by simp) c hc
    · rcases List.mem_cons.1 hc with rfl | hc
      · decide
      · exact h y (by simp [hy]) c hc
theorem jrest_size (l : List ByteArray) : (jrest ⟨#[32]⟩ l).size = l.length + szSum l := by
  induction l with
  | nil => rfl
  | cons x l ih =>
    show ((⟨#[32]⟩ : ByteArray) ++ x ++ jrest ⟨#[32]⟩ l).size = _ + (x.size + szSum l)
    rw [ByteArray.size_append, ByteArray.size_append, ih, List.length_cons]
    show 1 + x.size + _ = _
    omega
theorem joined_size (l : List ByteArray) : (joinedB ⟨#[32]⟩ l).size ≤ l.length + szSum l := by
  cases l with
  | nil => exact Nat.zero_le _
  | cons x l =>
    show (x ++ jrest ⟨#[32]⟩ l).size ≤ _ + (x.size + szSum l)
    rw [ByteArray.size_append, jrest_size, List.length_cons]
    omega
/-- the words of a line of words 'e x', one behind the other -/
theorem words_enc (e : List UInt8 → List UInt8) (l : List (List UInt8)) (hne : l ≠ []) (h : ∀ x ∈ l, WordOk ((e x).map (·.toNat)) x) (ha : ∀ x ∈ l, ∀ c ∈ e x, c.toNat < 128) :
    words false (rnsOf (joinedB ⟨#[32]⟩ (baOf (l.map e))).data.toList) = some (l, -1) := by
  rw [rns_ascii _ (joined_mem (l.map e) (by intro x hx; obtain ⟨y, hy, rfl⟩ := List.mem_map.1 hx; exact ha y hy)), joined_data]
  have := words_join (l.map fun x => ((e x).map (·.toNat), x)) (by simpa using hne) (by intro q hq; obtain ⟨y, hy, rfl⟩ := List.mem_map.1 hq; exact h y hy)
  simp only [List.map_map] at this ⊢
  have e1 : l.map (Prod.snd ∘ fun x => ((e x).map (·.toNat), x)) = l := by
    rw [show (Prod.snd ∘ fun x : List UInt8 => ((e x).map (·.toNat), x)) = id from rfl, List.map_id]
  rw [e1] at this
  exact this
def laOf (l : List ByteArray) : List (List UInt8) := l.map fun x => x.data.toList
theorem baOf_laOf (l : List ByteArray) : baOf (laOf l) = l := by
  unfold baOf laOf
  rw [List.map_map]
  have : ((fun x : List UInt8 => (⟨x.toArray⟩ : ByteArray)) ∘ fun x : ByteArray => x.data.toList) = id := by
    funext x
    apply ByteArray.ext
    simp
  rw [this, List.map_id]
theorem laOf_length (l : List ByteArray) : (laOf l).length = l.length := by simp [laOf]
theorem own_str {w : World} {B n : Nat} {v : Value} {l : List (List UInt8)} (h : w.ownsRow B 9 1 v n (l.map strV)) : w.ownsRow B 9 1 v n ((baOf l).map Value.string) := by
  have : (baOf l).map Value.string = l.map strV := by unfold baOf; rw [List.map_map]; rfl
  rw [this]
  exact h
theorem own_bl {B : Nat} {e : TypeId} {k : Nat} {v : Value} {n : Nat} {xs : List Value} {w w' : World} (h : w.ownsRow B e k v n xs) (hb : Below w.heap.size w w') : w'.ownsRow B e k v n xs :=
  h.kept (row := none) ⟨hb.os, hb.tape, hb.output, hb.size, fun j hj _ => hb.block j hj⟩ (by cases hv : v.ownBlock <;> simp)
theorem ba_empty {x : ByteArray} (h : x.size = 0) : x = ⟨#[]⟩ := by
  apply ByteArray.ext
  apply Array.toList_inj.1
  have : x.data.toList.length = 0 := by rw [← Lib.size_eq]; exact h
  exact List.eq_nil_of_length_eq_zero this
theorem take_snoc {α : Type} {l : List α} {k : Nat} (h : k < l.length) : l.take (k + 1) = l.take k ++ [l[k]] := by
  rw [List.take_add_one, List.getElem?_eq_getElem h]
  rfl
end Go.Proofs.YtcjfcjlendibpaaDoor
