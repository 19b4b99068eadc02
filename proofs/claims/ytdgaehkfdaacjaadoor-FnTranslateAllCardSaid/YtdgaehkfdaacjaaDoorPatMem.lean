/- The memory of spec.Pattern's walk. -/
import Derived.Test.YtdgaehkfdaacjaaDoorPattern
import Derived.Test.YtdgaehkfdaacjaaDoorPatLaw
import Derived.Test.YtdgaehkfdaacjaaDoorTrTab
set_option linter.unusedVariables false
namespace Go.Proofs.YtdgaehkfdaacjaaDoor
open Go.RowKit Plain Go.Maps

theorem infoRune : (Tryd.prog.info? 21).map (fun i => (i.zero, i.size, i.bytes)) = some (some (.int .i32 0), 1, 4) := by kernel_rfl
/-- the memory of the walk: the result's block, the set's, the row of the pattern's runes, the row of what is listed -/
structure PS (w : World) (R : Nat) (P L : List Nat) (lv : Value) (nt : Bool) (wr : World) : Prop where
  res : wr.heap[w.heap.size]? = some (.cells #[.slice none 0 0, .bool false] 40 (0, 0))
  x : wr.heap[w.heap.size + 1]? = some (.cells #[lv, .bool nt] 40 (0, 0))
  row : RowR R P wr
  lt : w.heap.size + 2 ≤ R
  own : wr.ownsRow (R + 1) 21 1 lv L.length (L.map rcell)
  bel : Below w.heap.size w wr
theorem PS.hi {w : World} {R : Nat} {P L : List Nat} {lv : Value} {nt : Bool} {wr : World} (h : PS w R P L lv nt wr) : R + 1 ≤ wr.heap.size := h.row.lt
theorem PS.drew {w : World} {R : Nat} {P L : List Nat} {lv : Value} {nt : Bool} {wr : World} (h : PS w R P L lv nt wr) : PS w R P L lv nt wr.drew :=
  ⟨h.res, h.x, h.row.keep rfl, h.lt, row_keep h.own fun _ _ => rfl, h.bel.drew⟩
theorem PS.drewN {w : World} {R : Nat} {P L : List Nat} {lv : Value} {nt : Bool} {wr : World} (h : PS w R P L lv nt wr) (k : Nat) : PS w R P L lv nt (wr.drewN k) :=
  ⟨h.res, h.x, h.row.keep rfl, h.lt, row_keep h.own fun _ _ => rfl, bthen h.bel ⟨rfl, rfl, rfl, Nat.le_refl _, fun _ _ => rfl⟩⟩
theorem PS.shape {w : World} {R : Nat} {P L : List Nat} {lv : Value} {nt : Bool} {wr : World} (h : PS w R P L lv nt wr) : ∃ A cap, lv = .slice A L.length cap := by
  rcases h.own.2 with ⟨hv, h0⟩ | ⟨g, cap, cur, hv, _⟩
  · exact ⟨none, 0, by rw [hv, h0]⟩
  · exact ⟨_, _, hv⟩
theorem PS.mid {w : World} {R : Nat} {P L : List Nat} {lv : Value} {nt : Bool} {wr w2 : World} (h : PS w R P L lv nt wr) (o : Obj) (hg : (wr.alloc o).grownBy w2 lv.ownBlock) :
    w2.heap[w.heap.size]? = wr.heap[w.heap.size]? ∧ w2.heap[w.heap.size + 1]? = wr.heap[w.heap.size + 1]? ∧ w2.heap[R]? = wr.heap[R]? ∧ Below w.heap.size w w2 := by
  have hlt := h.lt
  have hhi := h.hi
  have hne : ∀ k, k ≤ R → some k ≠ lv.ownBlock := fun k hk e => by have := (row_is h.own e.symm).1; omega
  have key : ∀ k, k ≤ R → w2.heap[k]? = wr.heap[k]? := fun k hk => (hg.block k (by simp; omega) (hne k hk)).trans (Below.heap_alloc _ _ _ (by omega))
  exact ⟨key _ (by omega), key _ (by omega), key _ (Nat.le_refl _), (h.bel.alloc (by omega) o).grown hg (by simp; omega) (fun k hk => by have := (row_is h.own hk).1; omega)⟩
theorem PS.push {w : World} {R : Nat} {P L : List Nat} {lv lv' : Value} {nt : Bool} {wr w2 : World} (h : PS w R P L lv nt wr) (c : Nat) (o : Obj) (hown : w2.ownsRow (R + 1) 21 1 lv' (L.length + 1) (L.map rcell ++ [.int .i32 (c : Int)])) (hg : (wr.alloc o).grownBy w2 lv.ownBlock) :
    PS w R P (L ++ [c]) lv' nt (w2.setCell ⟨w.heap.size + 1, 0, none⟩ lv') := by
  obtain ⟨e1, e2, e3, hb⟩ := h.mid o hg
  have hlt := h.lt
  refine ⟨?_, ?_, ?_, h.lt, ?_, hb.setCell (by show w.heap.size ≤ w.heap.size + 1; omega) _⟩
  · rw [Below.heap_setCell _ _ _ _ (by show w.heap.size ≠ w.heap.size + 1; omega), e1]; exact h.res
  · have := e2.trans h.x
    simp [World.setCell, Array.getElem?_modify, this]
  · exact h.row.keep ((Below.heap_setCell _ _ _ _ (by show R ≠ w.heap.size + 1; omega)).trans e3)
  · rw [List.length_append, List.map_append]
    refine row_keep hown fun g hg2 => Below.heap_setCell _ _ _ _ ?_
    have := (row_is hown hg2).1
    show g ≠ w.heap.size + 1
    omega
theorem PS.flag {w : World} {R : Nat} {P L : List Nat} {lv : Value} {nt : Bool} {wr : World} (h : PS w R P L lv nt wr) : PS w R P L lv true (wr.setCell ⟨w.heap.size + 1, 1, none⟩ (.bool true)) := by
  have hlt := h.lt
  refine ⟨?_, ?_, ?_, h.lt, ?_, h.bel.setCell (by show w.heap.size ≤ w.heap.size + 1; omega) _⟩
  · rw [Below.heap_setCell _ _ _ _ (by show w.heap.size ≠ w.heap.size + 1; omega)]; exact h.res
  · simp [World.setCell, Array.getElem?_modify, h.x]
  · exact h.row.keep (Below.heap_setCell _ _ _ _ (by show R ≠ w.heap.size + 1; omega))
  · refine row_keep h.own fun g hg2 => Below.heap_setCell _ _ _ _ ?_
    have := (row_is h.own hg2).1
    show g ≠ w.heap.size + 1
    omega
def PatRes (p : List Nat) (tob : Bool) (B : Nat) (e : Ending) (w' : World) : Prop :=
  (OpenA e ∧ patS tob p = none) ∨ ∃ L nt A cap, e = .returned (.tuple #[.agg #[.slice A L.length cap, .bool nt], .int .i64 1]) ∧ patS tob p = some (L, nt) ∧ ∃ b0, B ≤ b0 ∧ w'.ownsRow b0 21 1 (.slice A L.length cap) L.length (L.map rcell)
end Go.Proofs.YtdgaehkfdaacjaaDoor
