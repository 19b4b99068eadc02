/- laws.eqTexts and laws.eqProps of rows that tell the same. -/
import Derived.Test.YtgmhigjhooihdaaGreatDoorZzIt
import Derived.Deep.QuietTactic
import Derived.LoopTactic
set_option linter.unusedVariables false
namespace Go.Proofs.YtgmhigjhooihdaaGreatDoor
open Go.RowKit Plain Go.Maps

theorem slq_any {w : World} {B n sz : Nat} {e : TypeId} {v : Value} {xs : List Value} (h : w.ownsRow B e sz v n xs) : ∃ a cap, v = .slice a n cap := by
  rcases h.2 with ⟨rfl, rfl⟩ | ⟨g, cap, cur, hv, _⟩
  · exact ⟨none, 0, rfl⟩
  · exact ⟨_, _, hv⟩
theorem slq_pos {w : World} {B n sz : Nat} {e : TypeId} {a : Option Addr} {c : Nat} {xs : List Value} (h : w.ownsRow B e sz (.slice a n c) n xs) (hn : 0 < n) : ∃ g, a = some ⟨g, 0, none⟩ := by
  rcases h.2 with ⟨_, h0⟩ | ⟨g, cap, cur, hv, _⟩
  · omega
  · injection hv with hv; exact ⟨g, hv⟩
theorem flat4 : ∀ (L : List (List Value)), (∀ x ∈ L, x.length = 4) → ∀ (i : Nat) (x : List Value), L[i]? = some x → ∀ c, c < 4 → L.flatten[i * 4 + c]? = x[c]? := by
  intro L
  induction L with
  | nil => intro h i x hx; simp at hx
  | cons a L ih =>
    intro h i x hx c hc
    have ha := h a List.mem_cons_self
    match i, hx with
    | 0, hx =>
      simp at hx
      subst hx
      rw [List.flatten_cons, Nat.zero_mul, Nat.zero_add, List.getElem?_append_left (by omega)]
    | i + 1, hx =>
      have hx' : L[i]? = some x := by simpa using hx
      rw [List.flatten_cons, List.getElem?_append_right (by omega), ha, show (i + 1) * 4 + c - 4 = i * 4 + c by omega]
      exact ih (fun y hy => h y (List.mem_cons_of_mem _ hy)) i x hx' c hc
def DrewBy (w w' : World) : Prop := ∃ n, w' = w.drewN n
theorem DrewBy.below {w w' : World} (h : DrewBy w w') (B : Nat) : Below B w w' := by
  obtain ⟨n, rfl⟩ := h
  exact ⟨rfl, rfl, rfl, Nat.le_refl _, fun _ _ => rfl⟩
theorem DrewBy.heap {w w' : World} (h : DrewBy w w') : w'.heap = w.heap := by
  obtain ⟨n, rfl⟩ := h
  rfl
theorem DrewBy.refl (w : World) : DrewBy w w := ⟨0, rfl⟩
theorem DrewBy.trans {a b c : World} (h : DrewBy a b) (k : DrewBy b c) : DrewBy a c := by
  obtain ⟨n, rfl⟩ := h
  obtain ⟨m, rfl⟩ := k
  exact ⟨n + m, World.drewN_drewN _ _ _⟩
set_option maxHeartbeats 2000000 in
set_option maxRecDepth 100000 in
theorem eqTexts_same (B1 B2 n : Nat) (u1 u2 : Value) (l : List ByteArray) (w : World) (hl : l.length = n) (hn : n ≤ 10000000) (h1 : w.ownsRow B1 9 1 u1 n (l.map Value.string)) (h2 : w.ownsRow B2 9 1 u2 n (l.map Value.string)) :
    Calls Tryz.prog 38 #[u1, u2] w fun e w' => e = .returned (.bool true) ∧ DrewBy w w' := by
  obtain ⟨a1, c1, rfl⟩ := slq_any h1
  obtain ⟨a2, c2, rfl⟩ := slq_any h2
  have HR1 := Lib.hid h1
  have HR2 := Lib.hid h2
  have HN := Lib.hid hl
  clear h1 h2 hl
  go_enter Tryz.func38, Tryz.ntmps38
  go_wp2
  go_loopg [13] n (fun g' v13 wr => ∃ i : Nat, v13 = .int .i64 (i : Int) ∧ i ≤ n ∧ g' = n - i ∧ Hid (DrewBy w wr))
  case atStart => exact ⟨0, rfl, Nat.zero_le _, rfl, Lib.hid (DrewBy.refl _)⟩
  case round =>
    obtain ⟨i, rfl, hin, rfl, HD⟩ := hrel
    by_cases hlt : i < n
    · have hiz : (i : Int) < (n : Int) := by omega
      obtain ⟨g1, rfl⟩ := slq_pos HR1.out (by omega)
      obtain ⟨g2, rfl⟩ := slq_pos HR2.out (by omega)
      obtain ⟨x, hx⟩ : ∃ x, l[i]? = some x := ⟨_, List.getElem?_eq_getElem (by have := HN.out; omega)⟩
      have x1 : wr.cell? ⟨g1, i, none⟩ = some (.string x) := by
        have hrw := row_keep (w' := wr) HR1.out (fun g hg => by rw [HD.out.heap])
        rw [hrw.cellAt i (by omega)]
        simp [hx]
      have x2 : wr.cell? ⟨g2, i, none⟩ = some (.string x) := by
        have hrw := row_keep (w' := wr) HR2.out (fun g hg => by rw [HD.out.heap])
        rw [hrw.cellAt i (by omega)]
        simp [hx]
      clear hx
      go_wp2
      go_quiet (fail)
      have HD2 : Hid (DrewBy w (wr.drewN nq)) := Lib.hid (HD.out.trans ⟨nq, rfl⟩)
      go_wp2
      go_roundg (n - (i + 1))
      case measure => omega
      case rel => exact ⟨i + 1, by go_num, by omega, rfl, HD2⟩
    · have hiz : ¬ (i : Int) < (n : Int) := by omega
      go_wp2
      go_ret
      exact ⟨rfl, HD.out⟩
/-- two properties that tell the same but for their values -/
def likeD (a b : PropD) : Prop := a.key = b.key ∧ a.raw = b.raw ∧ a.com = b.com
theorem zip_len4 (l : List PropD) (us : List Value) : ∀ x ∈ List.zipWith propV l us, x.length = 4 := by
  intro x hx
  obtain ⟨n, hn⟩ := List.getElem?_of_mem hx
  rw [List.getElem?_zipWith] at hn
  cases ha : l[n]? <;> cases hb : us[n]? <;> rw [ha, hb] at hn <;> simp at hn
  rw [← hn]
  rfl
theorem prow_cells {w : World} {B g c n : Nat} {l : List PropD} {us : List Value} (h : w.ownsRow B 34 4 (.slice (some ⟨g, 0, none⟩) n c) n (List.zipWith propV l us).flatten) {i : Nat} {d : PropD} {u : Value} (hi : i < n) (hd : l[i]? = some d) (hu : us[i]? = some u) :
    w.cell? ⟨g, i * 4, none⟩ = some (.string d.key) ∧ w.cell? ⟨g, i * 4 + 1, none⟩ = some (.string d.raw) ∧ w.cell? ⟨g, i * 4 + 2, none⟩ = some (.string d.val) ∧ w.cell? ⟨g, i * 4 + 3, none⟩ = some u := by
  have hzip : (List.zipWith propV l us)[i]? = some (propV d u) := by
    rw [List.getElem?_zipWith, hd, hu]
  exact ⟨(h.cellAt (i * 4) (by omega)).trans (flat4 _ (zip_len4 l us) i _ hzip 0 (by omega)), (h.cellAt (i * 4 + 1) (by omega)).trans (flat4 _ (zip_len4 l us) i _ hzip 1 (by omega)), (h.cellAt (i * 4 + 2) (by omega)).trans (flat4 _ (zip_len4 l us) i _ hzip 2 (by omega)), (h.cellAt (i * 4 + 3) (by omega)).trans (flat4 _ (zip_len4 l us) i _ hzip 3 (by omega))⟩
set_option maxHeartbeats 4000000 in
set_option maxRecDepth 100000 in
theorem eqProps_same (B1 B2 : Nat) (v1 v2 : Value) (l1 l2 : List PropD) (w : World) (n : Nat) (hl1 : l1.length = n) (hl2 : l2.length = n) (hn : n ≤ 10000000) (hcm : ∀ d ∈ l1, d.com.length ≤ 10000000) (hlk : ∀ (i : Nat) a b, l1[i]? = some a → l2[i]? = some b → likeD a b) (h1 : PRow B1 v1 l1 w) (h2 : PRow B2 v2 l2 w) :
    Calls Tryz.prog 14 #[v1, v2, .bool false] w fun e w' => e = .returned (.bool true) ∧ Below w.heap.size w w' := by
  obtain ⟨us1, hu1, hr1, hc1⟩ := h1
  obtain ⟨us2, hu2, hr2, hc2⟩ := h2
  rw [hl1] at hu1 hr1
  rw [hl2] at hu2 hr2
  obtain ⟨a1, c1, rfl⟩ := slq_any hr1
  obtain ⟨a2, c2, rfl⟩ := slq_any hr2
  have HR1 := Lib.hid hr1
  have HR2 := Lib.hid hr2
  have HU1 := Lib.hid hu1
  have HU2 := Lib.hid hu2
  have HC1 := Lib.hid hc1
  have HC2 := Lib.hid hc2
  have HN1 := Lib.hid hl1
  have HN2 := Lib.hid hl2
  have HLK := Lib.hid hlk
  clear hr1 hr2 hu1 hu2 hc1 hc2 hl1 hl2 hlk
  go_enter Tryz.func14, Tryz.ntmps14
  go_wp2
  go_loopg [15] n (fun g' v15 wr => ∃ i : Nat, v15 = .int .i64 (i : Int) ∧ i ≤ n ∧ g' = n - i ∧ Hid (DrewBy w wr))
  case atStart => exact ⟨0, rfl, Nat.zero_le _, rfl, Lib.hid (DrewBy.refl _)⟩
  case round =>
    obtain ⟨i, rfl, hin, rfl, HD⟩ := hrel
    by_cases hlt : i < n
    · have hiz : (i : Int) < (n : Int) := by omega
      obtain ⟨g1, rfl⟩ := slq_pos HR1.out (by omega)
      obtain ⟨g2, rfl⟩ := slq_pos HR2.out (by omega)
      obtain ⟨d1, hd1⟩ : ∃ x, l1[i]? = some x := ⟨_, List.getElem?_eq_getElem (by have := HN1.out; omega)⟩
      obtain ⟨d2, hd2⟩ : ∃ x, l2[i]? = some x := ⟨_, List.getElem?_eq_getElem (by have := HN2.out; omega)⟩
      obtain ⟨u1, hu1⟩ : ∃ x, us1[i]? = some x := ⟨_, List.getElem?_eq_getElem (by have := HU1.out; omega)⟩
      obtain ⟨u2, hu2⟩ : ∃ x, us2[i]? = some x := ⟨_, List.getElem?_eq_getElem (by have := HU2.out; omega)⟩
      have e1 := row_keep (w' := wr) HR1.out (fun g hg => by rw [HD.out.heap])
      have e2 := row_keep (w' := wr) HR2.out (fun g hg => by rw [HD.out.heap])
      obtain ⟨x0, x1, _, x3⟩ := prow_cells e1 hlt hd1 hu1
      obtain ⟨y0, y1, _, y3⟩ := prow_cells e2 hlt hd2 hu2
      obtain ⟨k1, k2, k3⟩ := HLK.out i d1 d2 hd1 hd2
      rw [← k1] at y0
      rw [← k2] at y1
      have q1 := HC1.out i d1 u1 hd1 hu1
      have q2 := HC2.out i d2 u2 hd2 hu2
      rw [← k3] at q2
      have hcl := hcm d1 (List.mem_of_getElem? hd1)
      have hc : ∀ m, Calls Tryz.prog 38 #[u1, u2] (wr.drewN m) fun e w'' => e = .returned (.bool true) ∧ ∃ j, w'' = wr.drewN j := fun m => (eqTexts_same B1 B2 d1.com.length u1 u2 d1.com (wr.drewN m) rfl hcl (row_keep q1 (fun g hg => by show (wr.drewN m).heap[g]? = _; rw [show (wr.drewN m).heap = w.heap from HD.out.heap])) (row_keep q2 (fun g hg => by show (wr.drewN m).heap[g]? = _; rw [show (wr.drewN m).heap = w.heap from HD.out.heap]))).mono (by
        rintro e w'' ⟨rfl, j, rfl⟩
        exact ⟨rfl, m + j, World.drewN_drewN _ _ _⟩)
      obtain ⟨K, hK⟩ : ∃ K, d1.key = K := ⟨_, rfl⟩
      obtain ⟨R, hR⟩ : ∃ K, d1.raw = K := ⟨_, rfl⟩
      rw [hK] at x0 y0
      rw [hR] at x1 y1
      have HCC := Lib.hid hc
      clear hd1 hd2 hu1 hu2 e1 e2 k1 k2 k3 q1 q2 hK hR hc
      go_wp2
      go_quiet ((go_at_call 38; exact HCC.out _))
      have HD2 : Hid (DrewBy w (wr.drewN nq)) := Lib.hid (HD.out.trans ⟨nq, rfl⟩)
      go_wp2
      go_roundg (n - (i + 1))
      case measure => omega
      case rel => exact ⟨i + 1, by go_num, by omega, rfl, HD2⟩
    · have hiz : ¬ (i : Int) < (n : Int) := by omega
      go_wp2
      go_ret
      exact ⟨rfl, HD.out.below _⟩
end Go.Proofs.YtgmhigjhooihdaaGreatDoor
