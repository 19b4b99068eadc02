/- Printed eqTexts in plain words; rows of texts. -/
import Derived.Test.YtcjfcjlendibpaaDoorPFnWordsEnvsx1
import Derived.Test.YtcjfcjlendibpaaDoorPMem
set_option linter.unusedVariables false
namespace Go.Proofs.YtcjfcjlendibpaaDoor
open Go.RowKit Plain Go.Proofs.YtcjfcjlendibpaaDoorW.PrintWords

theorem kc_row (w : World) (g n : Nat) (l : List ByteArray) (hn : l.length = n) (hb : n ≤ 4611686018427387904) (h : ∀ k x, l[k]? = some x → w.cell? ⟨g, k, none⟩ = some (.string x)) : Kd.string.C w (some ⟨g, 0, none⟩) n l := by
  refine ⟨hn, by omega, fun _ => ⟨⟨g, 0, none⟩, rfl, fun j p hj => ⟨[.string p], rfl, rfl, fun i u hu => ?_⟩⟩⟩
  match i, hu with
  | 0, hu =>
    simp at hu
    subst hu
    have := h j p hj
    have e : j * Kd.string.sz + 0 = j := by have : Kd.string.sz = 1 := rfl; rw [this]; omega
    rw [e, Addr.add_lit, Nat.zero_add]
    exact this
def baOf (l : List (List UInt8)) : List ByteArray := l.map fun x => ⟨x.toArray⟩
theorem baOf_length (l : List (List UInt8)) : (baOf l).length = l.length := by simp [baOf]
theorem kc_own {w : World} {B g n c : Nat} {l : List (List UInt8)} (h : w.ownsRow B 9 1 (.slice (some ⟨g, 0, none⟩) n c) n (l.map strV)) (hn : l.length = n) (hb : n ≤ 4611686018427387904) : Kd.string.C w (some ⟨g, 0, none⟩) n (baOf l) := by
  refine kc_row w g n (baOf l) (by rw [baOf_length]; exact hn) hb fun k x hx => ?_
  have := h.cells (g := g) rfl k (.string x) (by
    obtain ⟨y, hy, rfl⟩ : ∃ y, l[k]? = some y ∧ (⟨y.toArray⟩ : ByteArray) = x := by simpa [baOf] using hx
    simp [hy, strV])
  rwa [Addr.add_lit, Nat.zero_add] at this
theorem kc_nil (w : World) : Kd.string.C w none 0 [] := ⟨rfl, by omega, fun h => absurd h (by omega)⟩
theorem ba_inj {a b : ByteArray} : a.toList = b.toList ↔ a = b := by
  constructor
  · intro h
    rw [Lib.toList_data, Lib.toList_data] at h
    exact ByteArray.ext (Array.toList_inj.1 h)
  · intro h; rw [h]
theorem eqT_l0 (a b : List ByteArray) (hab : a.length = b.length) (hn : a.length ≤ 4611686018427387904) : ∀ (d i k : Nat), i + d = a.length → d < k →
    PFnWordsEnvs.laws_eqTexts.l0 k a b (a.length : Int) (i : Int) = some (decide (a.drop i = b.drop i))
  | 0, i, k, hd, hk => by
    obtain ⟨k, rfl⟩ : ∃ m, k = m + 1 := ⟨k - 1, by omega⟩
    rw [PFnWordsEnvs.laws_eqTexts.l0, if_neg (by omega), List.drop_eq_nil_of_le (by omega), List.drop_eq_nil_of_le (by omega)]
    simp
  | d + 1, i, k, hd, hk => by
    obtain ⟨k, rfl⟩ : ∃ m, k = m + 1 := ⟨k - 1, by omega⟩
    have h1 : i < a.length := by omega
    have h2 : i < b.length := by omega
    have ea : rdOf ByteArray.empty a (i : Int) = a[i] := by simp [rdOf, List.getD, h1]
    have eb : rdOf ByteArray.empty b (i : Int) = b[i] := by simp [rdOf, List.getD, h2]
    have ew : wrap64 ((i : Int) + 1) = ((i + 1 : Nat) : Int) := by unfold wrap64; omega
    have e1 : a.drop i = a[i] :: a.drop (i + 1) := List.drop_eq_getElem_cons h1
    have e2 : b.drop i = b[i] :: b.drop (i + 1) := List.drop_eq_getElem_cons h2
    rw [PFnWordsEnvs.laws_eqTexts.l0, if_pos (by omega), if_pos (by omega), if_pos (by omega), if_pos (by omega), ea, eb, ew, eqT_l0 a b hab hn d (i + 1) k (by omega) (by omega), e1, e2]
    by_cases he : a[i] = b[i]
    · rw [if_pos (ba_inj.2 he), he]
      simp only [List.cons.injEq, true_and]
    · rw [if_neg (fun h => he (ba_inj.1 h))]
      congr 1
      have : ¬ (a[i] :: a.drop (i + 1) = b[i] :: b.drop (i + 1)) := fun h => he (List.cons.inj h).1
      simp only [this, decide_false]
theorem eqT_f (a b : List ByteArray) (hn : a.length ≤ 4611686018427387904) : PFnWordsEnvs.laws_eqTexts.f (a.length + 1) a b = some (decide (a = b)) := by
  unfold PFnWordsEnvs.laws_eqTexts.f
  by_cases h : a.length = b.length
  · rw [if_pos (by omega)]
    have := eqT_l0 a b h hn a.length 0 (a.length + 1) (by omega) (by omega)
    simpa using this
  · rw [if_neg (by omega)]
    have : a ≠ b := fun e => h (by rw [e])
    simp [this]
theorem drawn_below {w w' : World} (h : Drawn0 w w') : Below w.heap.size w w' := h.below
/-- the law's eqTexts, at two lists -/
theorem eqTexts_at (A0 A1 : Option Addr) (n m c0 c1 : Nat) (a b : List ByteArray) (w : World) (r : Bool) (h0 : Kd.string.C w A0 n a) (h1 : Kd.string.C w A1 m b) (hna : a.length = n) (hmb : b.length = m) (hc0 : n ≤ c0) (hc1 : m ≤ c1) (hn : n ≤ 4611686018427387904) (hr : decide (a = b) = r) :
    Calls Tryd.prog 13 #[.slice A0 n c0, .slice A1 m c1] w fun e w' => e = .returned (.bool r) ∧ Below w.heap.size w w' := by
  subst hna hmb
  exact (PFnWordsEnvs.laws_eqTexts.calls (a.length + 1) A0 c0 a A1 c1 b r w h0 hc0 h1 hc1 (by rw [eqT_f a b hn, hr])).mono fun e w' ⟨he, hd⟩ => ⟨he, hd.below⟩
end Go.Proofs.YtcjfcjlendibpaaDoor
