/- The parser's nextItem, unexpected. -/
import Derived.Test.YtackciefmdiphaaGreatDoorLexTop
set_option linter.unusedVariables false
namespace Go.Proofs.YtackciefmdiphaaGreatDoor
open Go.RowKit Plain

/-- three cells of an item at an address -/
def ItemAt (g o : Nat) (x : LI) (w : World) : Prop := w.cell? ⟨g, o, none⟩ = some (.int .i64 (x.kind : Int)) ∧ w.cell? ⟨g, o + 1, none⟩ = some (.int .i64 (x.pos : Int)) ∧ w.cell? ⟨g, o + 2, none⟩ = some (.string x.text)
def itemV (x : LI) : Value := .agg #[.int .i64 (x.kind : Int), .int .i64 (x.pos : Int), .string x.text]
def NItem (lb : Nat) (s : ByteArray) (x : LI) (g o m c : Nat) (w : World) (e : Ending) (w' : World) : Prop :=
  e = .returned (itemV x) ∧ KeepB lb w w' ∧ (∀ B, B ≤ lb → B ≤ w.heap.size → Below B w w') ∧ ∃ st pos start wd lp rv iv, w'.heap[lb]? = some (lxC s st pos start wd lp rv iv) ∧ (0 < m → iv = .slice (some ⟨g, o + 3, none⟩) m (c - 1))
set_option maxHeartbeats 4000000 in
set_option maxRecDepth 100000 in
theorem nextItem_any (lb : Nat) (s : ByteArray) (x : LI) (g o m c : Nat) (st : Value) (pos start wd : Nat) (lp : Int) (rv : Value) (w : World) (h : w.heap[lb]? = some (lxC s st pos start wd lp rv (.slice (some ⟨g, o, none⟩) (m + 1) c))) (hx : ItemAt g o x w) (hc : m + 1 ≤ c) (hc2 : c ≤ 9223372036854775807) :
    Calls Tryz.prog 109 #[.pointer (some ⟨lb, 0, none⟩)] w (NItem lb s x g o m c w) := by
  unfold NItem
  obtain ⟨x0, x1, x2⟩ := hx
  have hlt : lb < w.heap.size := (Array.getElem?_eq_some_iff.1 h).1
  have hgl : g < w.heap.size := Lib.lt_of_cell x0
  have H1 := Lib.hid h
  have h' : w.heap[lb]? = some (.cells #[.string s, st, .int .i64 (pos : Int), .int .i64 (start : Int), .int .i64 (wd : Int), .int .i64 lp, rv, .slice (some ⟨g, o, none⟩) (m + 1) c] 116 (0, 0)) := h
  have c7 : w.cell? ⟨lb, 7, none⟩ = some (.slice (some ⟨g, o, none⟩) (m + 1) c) := by simp [World.cell?, h']
  have c5 : w.cell? ⟨lb, 5, none⟩ = some (.int .i64 lp) := by simp [World.cell?, h']
  have f5 : w.frozen? ⟨lb, 5, none⟩ = false := by simp [World.frozen?, h']
  have f7 : w.frozen? ⟨lb, 7, none⟩ = false := by simp [World.frozen?, h']
  obtain ⟨K, hK⟩ : ∃ K : Int, (x.kind : Int) = K := ⟨_, rfl⟩
  obtain ⟨P, hP⟩ : ∃ P : Int, (x.pos : Int) = P := ⟨_, rfl⟩
  obtain ⟨T, hT⟩ : ∃ T, x.text = T := ⟨_, rfl⟩
  have hv : itemV x = .agg #[.int .i64 K, .int .i64 P, .string T] := by unfold itemV; rw [hK, hP, hT]
  rw [hv]
  rw [hK] at x0
  rw [hP] at x1
  rw [hT] at x2
  clear h h' hv hK hP hT
  have hKK : KeepB lb w w := KeepB.of (Below.refl _ w)
  by_cases h1 : c = 1
  · have hm0 : m = 0 := by omega
    subst h1
    subst hm0
    go_enter Tryz.func109, Tryz.ntmps109
    go_wp2
    refine bodyPost_ret (v := .agg #[.int .i64 K, .int .i64 P, .string T]) (by simp [results, Tryz.results109, go_sem]) rfl ?_
    have h9 := ((hKK.set 7 (.slice (some ⟨g, o, none⟩) 0 0)).set 5 (.int .i64 P))
    have hs1 := lx_set (i := 7) (u := (.slice (some ⟨g, o, none⟩) 0 0)) H1.out
    have hs2 := lx_set (i := 5) (u := .int .i64 P) hs1
    have hz : ((w.setCell ⟨lb, 7, none⟩ (.slice (some ⟨g, o, none⟩) 0 0)).setCell ⟨lb, 5, none⟩ (.int .i64 P)).heap.size = w.heap.size := by simp [World.setCell]
    refine ⟨rfl, ⟨by simp [World.setCell]; omega, fun j hj hn => ?_⟩, fun B hB hB2 => ((((Below.refl B w).setCell (p := ⟨lb, 7, none⟩) hB (.slice (some ⟨g, o, none⟩) 0 0)).setCell (p := ⟨lb, 5, none⟩) hB (.int .i64 P)).alloc (by rw [hz]; exact hB2) _).alloc (by simp [World.setCell]; omega) _, st, pos, start, wd, P, rv, .slice (some ⟨g, o, none⟩) 0 0, ?_, fun h => absurd h (by omega)⟩
    · rw [Below.heap_alloc _ _ _ (by simp; omega), Below.heap_alloc _ _ _ (by simp; omega)]
      exact h9.2 j hj hn
    · rw [Below.heap_alloc _ _ _ (by simp; omega), Below.heap_alloc _ _ _ (by simp; omega)]
      exact hs2.trans rfl
  · have hc1 : (1 : Int) < (c : Int) := by omega
    have hcz : ((m : Int) + 1) ≤ (c : Int) := by omega
    go_enter Tryz.func109, Tryz.ntmps109
    go_wp2
    refine bodyPost_ret (v := .agg #[.int .i64 K, .int .i64 P, .string T]) (by simp [results, Tryz.results109, go_sem]) rfl ?_
    have h9 := ((hKK.set 7 (.slice (some ⟨g, o + 3, none⟩) m (c - 1))).set 5 (.int .i64 P))
    have hs1 := lx_set (i := 7) (u := (.slice (some ⟨g, o + 3, none⟩) m (c - 1))) H1.out
    have hs2 := lx_set (i := 5) (u := .int .i64 P) hs1
    have hz : ((w.setCell ⟨lb, 7, none⟩ (.slice (some ⟨g, o + 3, none⟩) m (c - 1))).setCell ⟨lb, 5, none⟩ (.int .i64 P)).heap.size = w.heap.size := by simp [World.setCell]
    refine ⟨rfl, ⟨by simp [World.setCell]; omega, fun j hj hn => ?_⟩, fun B hB hB2 => ((((Below.refl B w).setCell (p := ⟨lb, 7, none⟩) hB (.slice (some ⟨g, o + 3, none⟩) m (c - 1))).setCell (p := ⟨lb, 5, none⟩) hB (.int .i64 P)).alloc (by rw [hz]; exact hB2) _).alloc (by simp [World.setCell]; omega) _, st, pos, start, wd, P, rv, .slice (some ⟨g, o + 3, none⟩) m (c - 1), ?_, fun _ => rfl⟩
    · rw [Below.heap_alloc _ _ _ (by simp; omega), Below.heap_alloc _ _ _ (by simp; omega)]
      exact h9.2 j hj hn
    · rw [Below.heap_alloc _ _ _ (by simp; omega), Below.heap_alloc _ _ _ (by simp; omega)]
      exact hs2.trans rfl
end Go.Proofs.YtackciefmdiphaaGreatDoor
