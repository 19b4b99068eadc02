/- The law's small functions at rows of texts, in plain words. -/
import Derived.Test.YtcjfcjlendibpaaDoorPRowLaw
import Derived.Test.YtcjfcjlendibpaaDoorPWordLaw
import Derived.Test.YtcjfcjlendibpaaDoorPOne
set_option linter.unusedVariables false
namespace Go.Proofs.YtcjfcjlendibpaaDoor
open Go.RowKit Plain Go.Proofs.YtcjfcjlendibpaaDoorW.PrintWords

theorem fits_at (A : Option Addr) (n c : Nat) (l : List ByteArray) (w : World) (r : Bool) (hk : Kd.string.C w A n l) (hn : l.length = n) (hc : n ≤ c) (hr : (decide (l.length ≤ 2147483647) && fitsR l) = r) :
    Calls Tryd.prog 14 #[.slice A n c] w fun e w' => e = .returned (.bool r) ∧ Below w.heap.size w w' := by
  subst hn
  exact (PFnWordsQuoted.laws_zzFits1.calls (l.length + 1) A c l r w hk hc (by rw [fits_f l, hr])).mono fun e w' ⟨he, hd⟩ => ⟨he, hd.below⟩
theorem seen_at (A : Option Addr) (n c : Nat) (l : List ByteArray) (w : World) (r : Bool) (hk : Kd.string.C w A n l) (hn : l.length = n) (hc : n ≤ c) (hl : l.length ≤ 2147483647) (hf : fitsR l = true) (hr : (l.all seenB && decide (l.length + szSum l ≤ 1000)) = r) :
    Calls Tryd.prog 15 #[.slice A n c] w fun e w' => e = .returned (.bool r) ∧ Below w.heap.size w w' := by
  subst hn
  exact (PFnWordsQuoted.laws_seen.calls (szSum l + 2 * l.length + l.length + 2) A c l r w hk hc (by rw [seen_f l hl hf, hr])).mono fun e w' ⟨he, hd⟩ => ⟨he, hd.below⟩
theorem has_at (s : ByteArray) (c : UInt8) (z : Int) (w : World) (r : Bool) (hz : z = (c.toNat : Int)) (hs : s.size ≤ 2147483647) (hr : decide (c ∈ s.data.toList) = r) :
    Calls Tryd.prog 18 #[.string s, .int .u8 z] w fun e w' => e = .returned (.bool r) ∧ Below w.heap.size w w' := by
  subst hz
  exact (PFnWordsQuoted.laws_has.calls (s.size + 1) s _ r w (by rw [has_f s c hs, hr])).mono fun e w' ⟨he, hd⟩ => ⟨he, hd.below⟩
theorem joined_at (A : Option Addr) (n c : Nat) (l : List ByteArray) (sep : ByteArray) (w : World) (r : ByteArray) (hk : Kd.string.C w A n l) (hn : l.length = n) (hc : n ≤ c) (hl : n ≤ 2147483647) (hsep : sep.size ≤ 10) (hz : szSum l ≤ 4611686018427387904) (hr : joinedB sep l = r) :
    Calls Tryd.prog 17 #[.slice A n c, .string sep] w fun e w' => e = .returned (.string r) ∧ Below w.heap.size w w' := by
  subst hn
  exact (PFnWordsQuoted.laws_joined.calls (l.length + 1) A c l sep r w hk hc (by rw [joined_f sep hsep l hl hz, hr])).mono fun e w' ⟨he, hd⟩ => ⟨he, hd.below⟩
/-! ### the joined line -/
theorem jrest_data (l : List (List UInt8)) : (jrest ⟨#[32]⟩ (baOf l)).data.toList = l.flatMap fun x => 32 :: x := by
  induction l with
  | nil => rfl
  | cons x l ih =>
    show ((⟨#[32]⟩ : ByteArray) ++ ⟨x.toArray⟩ ++ jrest ⟨#[32]⟩ (baOf l)).data.toList = _
    simp [ih]
theorem joinN_flat (c : List Nat) (l : List (List Nat)) : joinN (c :: l) = c ++ l.flatMap fun x => 32 :: x := by
  induction l generalizing c with
  | nil => simp [joinN]
  | cons d l ih =>
    show c ++ 32 :: joinN (d :: l) = _
    rw [ih d]
    simp
theorem flat_nat (l : List (List UInt8)) : (l.flatMap fun x => 32 :: x).map (·.toNat) = (l.map fun x => x.map (·.toNat)).flatMap fun x => 32 :: x := by
  induction l with
  | nil => rfl
  | cons x l ih =>
    simp only [List.flatMap_cons, List.map_append, List.map_cons, ih]
    rfl
theorem joined_data (l : List (List UInt8)) : (joinedB ⟨#[32]⟩ (baOf l)).data.toList.map (·.toNat) = joinN (l.map fun x => x.map (·.toNat)) := by
  cases l with
  | nil => rfl
  | cons x l =>
    rw [List.map_cons, joinN_flat, ← flat_nat]
    show ((⟨x.toArray⟩ : ByteArray) ++ jrest ⟨#[32]⟩ (baOf l)).data.toList.map (·.toNat) = _
    simp [jrest_data]
theorem joined_mem (l : List (List UInt8)) (h : ∀ x ∈ l, ∀ c ∈ x, c.toNat < 128) : ∀ c ∈ (joinedB ⟨#[32]⟩ (baOf l)).data.toList, c.toNat < 128 := by
  cases l with
  | nil => intro c hc; cases hc
  | cons x l =>
    intro c hc
    have e : (joinedB ⟨#[32]⟩ (baOf (x :: l))).data.toList = x ++ l.flatMap fun x => 32 :: x := by
      show ((⟨x.toArray⟩ : ByteArray) ++ jrest ⟨#[32]⟩ (baOf l)).data.toList = _
      simp [jrest_data]
    rw [e, List.mem_append, List.mem_flatMap] at hc
    rcases hc with hc | ⟨y, hy, hc⟩
    · exact h x (by simp) c hc
    · rcases List.mem_cons.1 hc with rfl | hc
      · decide
      · exact h y (by simp [hy]) c hc
theorem jrest_size (l : List ByteArray) : (jrest ⟨#[32]⟩ l).size = l.length + szSum l := by
  induction l with
  | nil => rfl
  | cons x l ih =>
    show ((⟨#[32]⟩ : ByteArray) ++ x ++ jrest ⟨#[32]⟩ l).size = _ + (x.size + szSum l)
    rw [ByteArray.size_append, ByteArray.size_append, ih, List.length_cons]
    show 1 + x.size + _ = _
    omega
theorem joined_size (l : List ByteArray) : (joinedB ⟨#[32]⟩ l).size ≤ l.length + szSum l := by
  cases l with
  | nil => exact Nat.zero_le _
  | cons x l =>
    show (x ++ jrest ⟨#[32]⟩ l).size ≤ _ + (x.size + szSum l)
    rw [ByteArray.size_append, jrest_size, List.length_cons]
    omega
/-- the words of a line of words 'e x', one behind the other -/
theorem words_enc (e : List UInt8 → List UInt8) (l : List (List UInt8)) (hne : l ≠ []) (h : ∀ x ∈ l, WordOk ((e x).map (·.toNat)) x) (ha : ∀ x ∈ l, ∀ c ∈ e x, c.toNat < 128) :
    words false (rnsOf (joinedB ⟨#[32]⟩ (baOf (l.map e))).data.toList) = some (l, -1) := by
  rw [rns_ascii _ (joined_mem (l.map e) (by intro x hx; obtain ⟨y, hy, rfl⟩ := List.mem_map.1 hx; exact ha y hy)), joined_data]
  have := words_join (l.map fun x => ((e x).map (·.toNat), x)) (by simpa using hne) (by intro q hq; obtain ⟨y, hy, rfl⟩ := List.mem_map.1 hq; exact h y hy)
  simp only [List.map_map] at this ⊢
  have e1 : l.map (Prod.snd ∘ fun x => ((e x).map (·.toNat), x)) = l := by
    rw [show (Prod.snd ∘ fun x : List UInt8 => ((e x).map (·.toNat), x)) = id from rfl, List.map_id]
  rw [e1] at this
  exact this
def laOf (l : List ByteArray) : List (List UInt8) := l.map fun x => x.data.toList
theorem baOf_laOf (l : List ByteArray) : baOf (laOf l) = l := by
  unfold baOf laOf
  rw [List.map_map]
  have : ((fun x : List UInt8 => (⟨x.toArray⟩ : ByteArray)) ∘ fun x : ByteArray => x.data.toList) = id := by
    funext x
    apply ByteArray.ext
    simp
  rw [this, List.map_id]
theorem laOf_length (l : List ByteArray) : (laOf l).length = l.length := by simp [laOf]
theorem own_str {w : World} {B n : Nat} {v : Value} {l : List (List UInt8)} (h : w.ownsRow B 9 1 v n (l.map strV)) : w.ownsRow B 9 1 v n ((baOf l).map Value.string) := by
  have : (baOf l).map Value.string = l.map strV := by unfold baOf; rw [List.map_map]; rfl
  rw [this]
  exact h
theorem own_bl {B : Nat} {e : TypeId} {k : Nat} {v : Value} {n : Nat} {xs : List Value} {w w' : World} (h : w.ownsRow B e k v n xs) (hb : Below w.heap.size w w') : w'.ownsRow B e k v n xs :=
  h.kept (row := none) ⟨hb.os, hb.tape, hb.output, hb.size, fun j hj _ => hb.block j hj⟩ (by cases hv : v.ownBlock <;> simp)
theorem ba_empty {x : ByteArray} (h : x.size = 0) : x = ⟨#[]⟩ := by
  apply ByteArray.ext
  apply Array.toList_inj.1
  have : x.data.toList.length = 0 := by rw [← Lib.size_eq]; exact h
  exact List.eq_nil_of_length_eq_zero this
theorem take_snoc {α : Type} {l : List α} {k : Nat} (h : k < l.length) : l.take (k + 1) = l.take k ++ [l[k]] := by
  rw [List.take_add_one, List.getElem?_eq_getElem h]
  rfl
end Go.Proofs.YtcjfcjlendibpaaDoor
