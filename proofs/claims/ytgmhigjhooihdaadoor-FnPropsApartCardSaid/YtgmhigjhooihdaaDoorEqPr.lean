/- laws.eqTexts and laws.eqProps of rows that tell the same. -/
import Derived.Test.YtgmhigjhooihdaaDoorZzIt
import Derived.Deep.QuietTactic
import Derived.LoopTactic
set_option linter.unusedVariables false
namespace Go.Proofs.YtgmhigjhooihdaaDoor
open Go.RowKit Plain Go.Maps

theorem slq_any {w : World} {B n sz : Nat} {e : TypeId} {v : Value} {xs : List Value} (h : w.ownsRow B e sz v n xs) : ∃ a cap, v = .slice a n cap := by
  rcases h.2 with ⟨rfl, rfl⟩ | ⟨g, cap, cur, hv, _⟩
  · exact ⟨none, 0, rfl⟩
  · exact ⟨_, _, hv⟩
theorem slq_pos {w : World} {B n sz : Nat} {e : TypeId} {a : Option Addr} {c : Nat} {xs : List Value} (h : w.ownsRow B e sz (.slice a n c) n xs) (hn : 0 < n) : ∃ g, a = some ⟨g, 0, none⟩ := by
  rcases h.2 with ⟨_, h0⟩ | ⟨g, cap, cur, hv, _⟩
  · omega
  · injection hv with hv; exact ⟨g, hv⟩
theorem flat4 : ∀ (L : List (List Value)), (∀ x ∈ L, x.length = 4) → ∀ (i : Nat) (x : List Value), L[i]? = some x → ∀ c, c < 4 → L.flatten[i * 4 + c]? = x[c]? := by
  intro L
  induction L with
  | nil => intro h i x hx; simp at hx
  | cons a L ih =>
    intro h i x hx c hc
    have ha := h a List.mem_cons_self
    match i, hx with
    | 0, hx =>
      simp at hx
      subst hx
      rw [List.flatten_cons, Nat.zero_mul, Nat.zero_add, List.getElem?_append_left (by omega)]
    | i + 1, hx =>
      have hx' : L[i]? = some x := by simpa using hx
      rw [List.flatten_cons, List.getElem?_append_right (by omega), ha, show (i + 1) * 4 + c - 4 = i * 4 + c by omega]
      exact ih (fun y hy => h y (List.mem_cons_of_mem _ hy)) i x hx' c hc
def DrewBy (w w' : World) : Prop := ∃ n, w' = w.drewN n
theorem DrewBy.below {w w' : World} (h : DrewBy w w') (B : Nat) : Below B w w' := by
  obtain ⟨n, rfl⟩ := h
  exact ⟨rfl, rfl, rfl, Nat.le_refl _, fun _ _ => rfl⟩
theorem DrewBy.heap {w w' : World} (h : DrewBy w w') : w'.heap = w.heap := by
  obtain ⟨n, rfl⟩ := h
  rfl
theorem DrewBy.refl (w : World) : DrewBy w w := ⟨0, rfl⟩
theorem DrewBy.trans {a b c : World} (h : DrewBy a b) (k : DrewBy b c) : DrewBy a c := by
  obtain ⟨n, rfl⟩ := h
  obtain ⟨m, rfl⟩ := k
  exact ⟨n + m, World.drewN_drewN _ _ _⟩
/-- two properties that tell the same but for their values -/
def likeD (a b : PropD) : Prop := a.key = b.key ∧ a.raw = b.raw ∧ a.com = b.com
theorem zip_len4 (l : List PropD) (us : List Value) : ∀ x ∈ List.zipWith propV l us, x.length = 4 := by
  intro x hx
  obtain ⟨n, hn⟩ := List.getElem?_of_mem hx
  rw [List.getElem?_zipWith] at hn
  cases ha : l[n]? <;> cases hb : us[n]? <;> rw [ha, hb] at hn <;> simp at hn
  rw [← hn]
  rfl
theorem prow_cells {w : World} {B g c n : Nat} {l : List PropD} {us : List Value} (h : w.ownsRow B 28 4 (.slice (some ⟨g, 0, none⟩) n c) n (List.zipWith propV l us).flatten) {i : Nat} {d : PropD} {u : Value} (hi : i < n) (hd : l[i]? = some d) (hu : us[i]? = some u) :
    w.cell? ⟨g, i * 4, none⟩ = some (.string d.key) ∧ w.cell? ⟨g, i * 4 + 1, none⟩ = some (.string d.raw) ∧ w.cell? ⟨g, i * 4 + 2, none⟩ = some (.string d.val) ∧ w.cell? ⟨g, i * 4 + 3, none⟩ = some u := by
  have hzip : (List.zipWith propV l us)[i]? = some (propV d u) := by
    rw [List.getElem?_zipWith, hd, hu]
  exact ⟨(h.cellAt (i * 4) (by omega)).trans (flat4 _ (zip_len4 l us) i _ hzip 0 (by omega)), (h.cellAt (i * 4 + 1) (by omega)).trans (flat4 _ (zip_len4 l us) i _ hzip 1 (by omega)), (h.cellAt (i * 4 + 2) (by omega)).trans (flat4 _ (zip_len4 l us) i _ hzip 2 (by omega)), (h.cellAt (i * 4 + 3) (by omega)).trans (flat4 _ (zip_len4 l us) i _ hzip 3 (by omega))⟩
end Go.Proofs.YtgmhigjhooihdaaDoor

