/- laws.eqTexts and laws.eqProps, the second row being one that a caller gives. -/
import Derived.Test.YtgmhigjhooihdaaGreatDoorEqPr
import Derived.Test.YtgmhigjhooihdaaGreatDoorPropA
set_option linter.unusedVariables false
namespace Go.Proofs.YtgmhigjhooihdaaGreatDoor
open Go.RowKit Plain Go.Maps

theorem RowA.heapEq {A : Option Addr} {l : List ByteArray} {w w' : World} (h : RowA A l w) (e : w'.heap = w.heap) : RowA A l w' := fun k x hx => by
  obtain ⟨ad, h1, h2⟩ := h k x hx
  exact ⟨ad, h1, by unfold World.cell? at h2 ⊢; rw [e]; exact h2⟩
set_option maxHeartbeats 2000000 in
set_option maxRecDepth 100000 in
theorem eqTexts_sameA (B1 n : Nat) (u1 : Value) (A : Option Addr) (c2 : Nat) (l : List ByteArray) (w : World) (hl : l.length = n) (hn : n ≤ 10000000) (h1 : w.ownsRow B1 9 1 u1 n (l.map Value.string)) (h2 : RowA A l w) :
    Calls Tryz.prog 38 #[u1, .slice A n c2] w fun e w' => e = .returned (.bool true) ∧ DrewBy w w' := by
  obtain ⟨a1, c1, rfl⟩ := slq_any h1
  have HR1 := Lib.hid h1
  have HR2 := Lib.hid h2
  have HN := Lib.hid hl
  clear h1 h2 hl
  go_enter Tryz.func38, Tryz.ntmps38
  go_wp2
  go_loopg [13] n (fun g' v13 wr => ∃ i : Nat, v13 = .int .i64 (i : Int) ∧ i ≤ n ∧ g' = n - i ∧ Hid (DrewBy w wr))
  case atStart => exact ⟨0, rfl, Nat.zero_le _, rfl, Lib.hid (DrewBy.refl _)⟩
  case round =>
    obtain ⟨i, rfl, hin, rfl, HD⟩ := hrel
    by_cases hlt : i < n
    · have hiz : (i : Int) < (n : Int) := by omega
      obtain ⟨g1, rfl⟩ := slq_pos HR1.out (by omega)
      obtain ⟨x, hx⟩ : ∃ x, l[i]? = some x := ⟨_, List.getElem?_eq_getElem (by have := HN.out; omega)⟩
      have x1 : wr.cell? ⟨g1, i, none⟩ = some (.string x) := by
        have hrw := row_keep (w' := wr) HR1.out (fun g hg => by rw [HD.out.heap])
        rw [hrw.cellAt i (by omega)]
        simp [hx]
      obtain ⟨ad, rfl, x2⟩ := (HR2.out.heapEq HD.out.heap) i x hx
      clear hx
      go_wp2
      go_quiet (fail)
      have HD2 : Hid (DrewBy w (wr.drewN nq)) := Lib.hid (HD.out.trans ⟨nq, rfl⟩)
      go_wp2
      go_roundg (n - (i + 1))
      case measure => omega
      case rel => exact ⟨i + 1, by go_num, by omega, rfl, HD2⟩
    · have hiz : ¬ (i : Int) < (n : Int) := by omega
      go_wp2
      go_ret
      exact ⟨rfl, HD.out⟩
theorem PrA.heapEq {A : Option Addr} {l : List PropD} {w w' : World} (h : PrA A l w) (e : w'.heap = w.heap) : PrA A l w' := fun i d hd => by
  obtain ⟨ad, h1, h2, h3, h4, B, c, h5, h6, h7, h8⟩ := h i d hd
  have hc : ∀ a : Addr, w'.cell? a = w.cell? a := fun a => by unfold World.cell?; rw [e]
  exact ⟨ad, h1, (hc _).trans h2, (hc _).trans h3, (hc _).trans h4, B, c, (hc _).trans h5, h6.heapEq e, h7, h8⟩
set_option maxHeartbeats 4000000 in
set_option maxRecDepth 100000 in
theorem eqProps_sameA (B1 : Nat) (v1 : Value) (l1 l2 : List PropD) (A : Option Addr) (c2 : Nat) (w : World) (n : Nat) (hl1 : l1.length = n) (hl2 : l2.length = n) (hn : n ≤ 10000000) (hcm : ∀ d ∈ l1, d.com.length ≤ 10000000) (hlk : ∀ (i : Nat) a b, l1[i]? = some a → l2[i]? = some b → likeD a b) (h1 : PRow B1 v1 l1 w) (h2 : PrA A l2 w) :
    Calls Tryz.prog 14 #[v1, .slice A n c2, .bool false] w fun e w' => e = .returned (.bool true) ∧ Below w.heap.size w w' := by
  obtain ⟨us1, hu1, hr1, hc1⟩ := h1
  rw [hl1] at hu1 hr1
  obtain ⟨a1, c1, rfl⟩ := slq_any hr1
  have HR1 := Lib.hid hr1
  have HR2 := Lib.hid h2
  have HU1 := Lib.hid hu1
  have HC1 := Lib.hid hc1
  have HN1 := Lib.hid hl1
  have HN2 := Lib.hid hl2
  have HLK := Lib.hid hlk
  clear hr1 h2 hu1 hc1 hl1 hl2 hlk
  go_enter Tryz.func14, Tryz.ntmps14
  go_wp2
  go_loopg [15] n (fun g' v15 wr => ∃ i : Nat, v15 = .int .i64 (i : Int) ∧ i ≤ n ∧ g' = n - i ∧ Hid (DrewBy w wr))
  case atStart => exact ⟨0, rfl, Nat.zero_le _, rfl, Lib.hid (DrewBy.refl _)⟩
  case round =>
    obtain ⟨i, rfl, hin, rfl, HD⟩ := hrel
    by_cases hlt : i < n
    · have hiz : (i : Int) < (n : Int) := by omega
      obtain ⟨g1, rfl⟩ := slq_pos HR1.out (by omega)
      obtain ⟨d1, hd1⟩ : ∃ x, l1[i]? = some x := ⟨_, List.getElem?_eq_getElem (by have := HN1.out; omega)⟩
      obtain ⟨d2, hd2⟩ : ∃ x, l2[i]? = some x := ⟨_, List.getElem?_eq_getElem (by have := HN2.out; omega)⟩
      obtain ⟨u1, hu1⟩ : ∃ x, us1[i]? = some x := ⟨_, List.getElem?_eq_getElem (by have := HU1.out; omega)⟩
      have e1 := row_keep (w' := wr) HR1.out (fun g hg => by rw [HD.out.heap])
      obtain ⟨x0, x1, _, x3⟩ := prow_cells e1 hlt hd1 hu1
      obtain ⟨ad, rfl, hpa⟩ := (HR2.out.heapEq HD.out.heap) i d2 hd2
      obtain ⟨q, hq, y0, y1, _, CA, bc, y3, hrow, _, _⟩ := hpa.cells
      obtain ⟨k1, k2, k3⟩ := HLK.out i d1 d2 hd1 hd2
      rw [← k1] at y0
      rw [← k2] at y1
      rw [← k3] at y3 hrow
      have q1 := HC1.out i d1 u1 hd1 hu1
      have hcl := hcm d1 (List.mem_of_getElem? hd1)
      obtain ⟨CN, hCN⟩ : ∃ m, d1.com.length = m := ⟨_, rfl⟩
      rw [hCN] at q1 y3 hcl
      have hc : ∀ m, Calls Tryz.prog 38 #[u1, .slice CA CN bc] (wr.drewN m) fun e w'' => e = .returned (.bool true) ∧ ∃ j, w'' = wr.drewN j := fun m => (eqTexts_sameA B1 CN u1 CA bc d1.com (wr.drewN m) hCN hcl (row_keep q1 (fun g hg => by show (wr.drewN m).heap[g]? = _; rw [show (wr.drewN m).heap = w.heap from HD.out.heap])) (hrow.heapEq rfl)).mono (by
        rintro e w'' ⟨rfl, j, rfl⟩
        exact ⟨rfl, m + j, World.drewN_drewN _ _ _⟩)
      obtain ⟨K, hK⟩ : ∃ K, d1.key = K := ⟨_, rfl⟩
      obtain ⟨R, hR⟩ : ∃ K, d1.raw = K := ⟨_, rfl⟩
      rw [hK] at x0 y0
      rw [hR] at x1 y1
      have HCC := Lib.hid hc
      clear hd1 hd2 hu1 e1 k1 k2 k3 q1 hK hR hc hpa hrow hCN
      go_wp2
      go_quiet ((go_at_call 38; exact HCC.out _))
      have HD2 : Hid (DrewBy w (wr.drewN nq)) := Lib.hid (HD.out.trans ⟨nq, rfl⟩)
      go_wp2
      go_roundg (n - (i + 1))
      case measure => omega
      case rel => exact ⟨i + 1, by go_num, by omega, rfl, HD2⟩
    · have hiz : ¬ (i : Int) < (n : Int) := by omega
      go_wp2
      go_ret
      exact ⟨rfl, HD.out.below _⟩
end Go.Proofs.YtgmhigjhooihdaaGreatDoor
