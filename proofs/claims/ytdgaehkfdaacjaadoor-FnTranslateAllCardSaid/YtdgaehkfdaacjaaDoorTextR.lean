/- A text as a row of runes. -/
import Derived.Test.YtdgaehkfdaacjaaDoorEnc
import Derived.Test.YtdgaehkfdaacjaaDoorFrm
import Derived.Test.YtdgaehkfdaacjaaDoorTrLaw
import Derived.Lib.MapLaws
import Derived.Laws.Cover4
import Derived.Laws.IdiomStrings
import Derived.Lib.Hide
namespace Go.Proofs.YtdgaehkfdaacjaaDoor
open Go.RowKit Plain
def rnsOf (l : List UInt8) : List Nat := (segs l).map runeOf
theorem rnsOf_step (s : ByteArray) (pos : Nat) (hp : pos < s.size) : rnsOf (s.data.toList.drop pos) = (Utf8.decode s pos).1 :: rnsOf (s.data.toList.drop (pos + (Utf8.decode s pos).2)) := by
  have hne : s.data.toList.drop pos ≠ [] := by
    intro e
    have := congrArg List.length e
    rw [List.length_drop, ← Lib.size_eq] at this
    simp at this
    omega
  unfold rnsOf
  rw [segs_step _ hne, List.map_cons, List.drop_drop, Lib.decodeL_drop]
  congr 1
  unfold runeOf
  have := decodeL_take _ hne
  rw [Lib.decodeL_drop] at this
  rw [this]
theorem rnsOf_end (s : ByteArray) (pos : Nat) (hp : ¬ pos < s.size) : rnsOf (s.data.toList.drop pos) = [] := by
  have e0 : s.data.toList.drop pos = [] := List.drop_eq_nil_of_le (by rw [← Lib.size_eq]; omega)
  rw [e0]; rfl
theorem rnsOf_le (l : List UInt8) : ∀ r ∈ rnsOf l, r ≤ 1114111 := by
  intro r hr
  unfold rnsOf at hr
  obtain ⟨c, _, rfl⟩ := List.mem_map.1 hr
  exact rune_le' c
theorem rnsOf_length (l : List UInt8) : (rnsOf l).length ≤ l.length := by
  unfold rnsOf
  rw [List.length_map]
  exact segs_length_le l
def rcell (r : Nat) : Value := .int .i32 (r : Int)
theorem convRunes (s : ByteArray) : ∀ (bound i : Nat) (acc : Array Value), s.size ≤ i + bound → Conv.runesFrom s bound i acc = acc ++ ((rnsOf (s.data.toList.drop i)).map rcell).toArray
  | 0, i, acc, h => by
    rw [rnsOf_end s i (by omega)]
    simp [Conv.runesFrom]
  | bound + 1, i, acc, h => by
    unfold Conv.runesFrom
    split
    · rename_i hi
      have hw := Lib.decode_width_pos s i hi
      dsimp only
      rw [convRunes s bound _ _ (by omega), rnsOf_step s i hi]
      simp [rcell]
    · rename_i hi
      rw [rnsOf_end s i hi]
      simp
/-- block 'R' is a row of runes -/
def RowR (R : Nat) (l : List Nat) (w : World) : Prop := ∃ (pad : Array Value), w.heap[R]? = some (.cells ((l.map rcell).toArray ++ pad) 21 (0, 0))
theorem RowR.cell {R : Nat} {l : List Nat} {w : World} (h : RowR R l w) {k : Nat} {x : Nat} (hx : l[k]? = some x) : w.cell? ⟨R, k, none⟩ = some (.int .i32 (x : Int)) := by
  obtain ⟨pad, h1⟩ := h
  obtain ⟨hk, rfl⟩ := List.getElem?_eq_some_iff.1 hx
  unfold World.cell?
  rw [h1]
  simp [Array.getElem?_append, hk, rcell]
theorem RowR.frozen {R : Nat} {l : List Nat} {w : World} (h : RowR R l w) (k : Nat) : w.frozen? ⟨R, k, none⟩ = false := by
  obtain ⟨pad, h1⟩ := h
  unfold World.frozen?
  rw [h1]
  simp
theorem RowR.store {R : Nat} {l : List Nat} {w : World} (h : RowR R l w) {k : Nat} {v : Nat} (hk : k < l.length) : RowR R (l.set k v) (w.setCell ⟨R, k, none⟩ (.int .i32 (v : Int))) := by
  obtain ⟨pad, h1⟩ := h
  refine ⟨pad, ?_⟩
  simp only [World.setCell, Array.getElem?_modify, if_true, h1, Option.map_some]
  congr 2
  apply Array.toList_inj.1
  simp [hk, List.map_set, rcell]
theorem RowR.keep {R : Nat} {l : List Nat} {w w' : World} (h : RowR R l w) (e : w'.heap[R]? = w.heap[R]?) : RowR R l w' := by
  obtain ⟨pad, h1⟩ := h
  exact ⟨pad, e.trans h1⟩
theorem RowR.lt {R : Nat} {l : List Nat} {w : World} (h : RowR R l w) : R < w.heap.size := by
  obtain ⟨pad, h1⟩ := h
  exact (Array.getElem?_eq_some_iff.1 h1).1
theorem add_at (R o j : Nat) : ((⟨R, o, none⟩ : Addr).add j) = ⟨R, o + j, none⟩ := by unfold Addr.add; split <;> simp_all
end Go.Proofs.YtdgaehkfdaacjaaDoor
