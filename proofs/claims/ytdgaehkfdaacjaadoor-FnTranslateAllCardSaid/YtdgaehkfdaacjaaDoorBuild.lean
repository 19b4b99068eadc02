import Derived.Test.YtdgaehkfdaacjaaDoorDec
import Derived.Shelf.Strings.BuilderK
import Derived.Shelf.Strings.BuilderCap
set_option linter.unusedVariables false
namespace Go.Proofs.YtdgaehkfdaacjaaDoor
open Go.Shelf Go.RowKit Plain

/-- the renumbering of the builder's closure, with WriteString. -/
def bRen : Go.Shelf.Ren := ⟨fun | 165 => 52 | 166 => 46 | 240 => 53 | 241 => 55 | n => Tryd.lays165_ren.f n, fun | 75 => 71 | 80 => 74 | n => Tryd.lays165_ren.t n, fun | n => n⟩
theorem xlays166 : Go.Proofs.Lays.n166 Tryd.prog bRen := {
  mixed := by kernel_rfl
  f166 := Tryd.func46.trans (congrArg some (by kernel_rfl))
  f240 := Tryd.func53.trans (congrArg some (by kernel_rfl))
  f276 := Tryd.lays165.f276
  t0 := Tryd.lays165.t0
  a0 := Tryd.lays165.a0
  z0 := Tryd.lays165.z0
  v0 := Tryd.lays165.v0
  t3 := Tryd.lays165.t3
  a3 := Tryd.lays165.a3
  z3 := Tryd.lays165.z3
  v3 := Tryd.lays165.v3
  t4 := Tryd.lays165.t4
  a4 := Tryd.lays165.a4
  z4 := Tryd.lays165.z4
  v4 := Tryd.lays165.v4
  t9 := Tryd.lays165.t9
  a9 := Tryd.lays165.a9
  z9 := Tryd.lays165.z9
  v9 := Tryd.lays165.v9
  t20 := Tryd.lays165.t20
  a20 := Tryd.lays165.a20
  z20 := Tryd.lays165.z20
  v20 := Tryd.lays165.v20
  t37 := Tryd.lays165.t37
  a37 := Tryd.lays165.a37
  z37 := Tryd.lays165.z37
  v37 := Tryd.lays165.v37
  t70 := Tryd.lays165.t70
  a70 := Tryd.lays165.a70
  z70 := Tryd.lays165.z70
  v70 := Tryd.lays165.v70
  t72 := Tryd.lays165.t72
  a72 := Tryd.lays165.a72
  z72 := Tryd.lays165.z72
  v72 := Tryd.lays165.v72
  t75 := Tryd.underlying71
  a75 := Tryd.isAgg71
  z75 := Tryd.sizeOf71
  v75 := Tryd.zeroValue71
  t164 := Tryd.lays165.t164
  a164 := Tryd.lays165.a164
  z164 := Tryd.lays165.z164
  v164 := Tryd.lays165.v164 }
theorem xExtra : Builder.Extra Tryd.prog bRen := {
  sizeBuilder := Tryd.Builder_Extra_165.sizeBuilder
  liesBuilder := Tryd.Builder_Extra_165.liesBuilder
  t5 := Tryd.Builder_Extra_165.t5
  a5 := Tryd.Builder_Extra_165.a5
  z5 := Tryd.Builder_Extra_165.z5
  v5 := Tryd.Builder_Extra_165.v5
  infoByte := Tryd.Builder_Extra_165.infoByte
  cellsByte := Tryd.Builder_Extra_165.cellsByte
  sizeByte := Tryd.Builder_Extra_165.sizeByte
  neB5 := Tryd.Builder_Extra_165.neB5 }

/-- block 'b' is a builder that holds the bytes 'l' -/
def IsB (b : Nat) (l : List UInt8) (w : World) : Prop := Lib.IsBuilderF 92 5 b b (Lib.byteCells l) w
theorem IsB.lt {b : Nat} {l : List UInt8} {w : World} (h : IsB b l w) : b < w.heap.size := by
  rcases h with h | h
  · exact h.lt
  · exact h.lt
theorem atF_below {T e : TypeId} {B b : Nat} {p : Value} {bs : List Value} {w w' : World} (h : Lib.BuilderAtF T e B b p bs w) (hb : Below w.heap.size w w') : Lib.BuilderAtF T e B b p bs w' := by
  have hlt := h.lt
  obtain ⟨hB, v, hbk, hown, hne⟩ := h
  refine ⟨hB, v, (hb.block b hlt).trans hbk, hown.kept (row := none) ⟨hb.os, hb.tape, hb.output, hb.size, fun k hk _ => hb.block k hk⟩ (by cases hv : v.ownBlock <;> simp), hne⟩
theorem IsB.below {b : Nat} {l : List UInt8} {w w' : World} (h : IsB b l w) (hb : Below w.heap.size w w') : IsB b l w' := by
  rcases h with h | h
  · exact .inl (atF_below h hb)
  · exact .inr (atF_below h hb)
theorem strCells_bytes (s : ByteArray) : Lib.strCells s = Lib.byteCells s.data.toList := rfl
theorem byteCells_app (a b : List UInt8) : Lib.byteCells (a ++ b) = Lib.byteCells a ++ Lib.byteCells b := by simp [Lib.byteCells]

theorem writeString_any (b : Nat) (l : List UInt8) (s : ByteArray) (w : World) (h : IsB b l w) (hlen : l.length + s.size ≤ 140737488355328) :
    Calls Tryd.prog 46 #[.pointer (some ⟨b, 0, none⟩), .string s] w fun e w' => e = .returned (.tuple #[.int .i64 s.size, .nilIface]) ∧ IsB b (l ++ s.data.toList) w' ∧ Below b w w' ∧ Lib.OthersKept 5 (some b) w w' := by
  refine (Any.Builder_WriteString_k xlays166 xExtra b b (Lib.byteCells l) s w h (by rw [Lib.byteCells_length]; exact hlen) (Nat.le_of_lt h.lt)).mono ?_
  rintro e w' ⟨rfl, hk, hb, ho⟩
  refine ⟨rfl, ?_, hb, ho⟩
  rw [strCells_bytes, ← byteCells_app] at hk
  exact .inr hk
theorem grow_any (b n : Nat) (w : World) (hbk : w.heap[b]? = some (.cells #[.pointer none, .slice none 0 0] 92 (0, 0))) (hn : n ≤ 281474976710656) :
    Calls Tryd.prog 52 #[.pointer (some ⟨b, 0, none⟩), .int .i64 n] w fun e w' => e = .returned (.tuple #[]) ∧ IsB b [] w' ∧ Below b w w' := by
  have hlt : b < w.heap.size := by
    rcases Nat.lt_or_ge b w.heap.size with h' | h'
    · exact h'
    · simp [Array.getElem?_eq_none h'] at hbk
  refine (Tryd.Builder_Grow_fresh b b n w (Nat.le_refl _) hbk (Nat.le_of_lt hlt) hn).mono ?_
  rintro e w' ⟨rfl, hk, hb⟩
  exact ⟨rfl, .inr (Lib.BuilderAtF.of hk), hb⟩
theorem string_any (b : Nat) (l : List UInt8) (w : World) (h : IsB b l w) :
    Calls Tryd.prog 47 #[.pointer (some ⟨b, 0, none⟩)] w fun e w' => e = .returned (.string ⟨l.toArray⟩) ∧ IsB b l w' ∧ Below b w w' ∧ Lib.OthersKept 5 (some b) w w' :=
  Tryd.Builder_String_any_k b b l w h (Nat.le_of_lt h.lt)
/-- a builder that has not been written -/
theorem fresh_any (w : World) : (w.alloc (.cells #[.pointer none, .slice none 0 0] 92)).heap[w.heap.size]? = some (.cells #[.pointer none, .slice none 0 0] 92 (0, 0)) := heap_alloc_new w _

theorem fresh_isB (w : World) : IsB w.heap.size [] (w.alloc (.cells #[.pointer none, .slice none 0 0] 92)) := Lib.IsBuilderF.of (Lib.fresh_isBuilder _ _ w)

/-- the tables stand whatever is done from block 'b' on -/
def TabsB (b : Nat) (w : World) : Prop := ∀ w', Below b w w' → Tabs w'
theorem TabsB.below {b : Nat} {w w' : World} (h : TabsB b w) (hb : Below b w w') : TabsB b w' := fun _ k => h _ (hb.trans k)
theorem TabsB.tabs {b : Nat} {w : World} (h : TabsB b w) : Tabs w := h w (Below.refl _ _)
theorem tabsB_of {w0 w : World} (h : Tabs w0) (hb : Below w0.heap.size w0 w) : TabsB w0.heap.size w := fun _ k => h.below (hb.trans k)
end Go.Proofs.YtdgaehkfdaacjaaDoor
