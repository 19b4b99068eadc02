/- strings.Builder's WriteString and String, at a dump that has no Grow. -/
import Derived.Test.YtgmhigjhooihdaaDoorDec
import Derived.Shelf.Strings.BuilderK
import Derived.Shelf.Strings.BuilderCap
set_option linter.unusedVariables false
namespace Go.Proofs.YtgmhigjhooihdaaDoor
open Go.Shelf Go.RowKit Plain

def wRen : Go.Shelf.Ren := ⟨fun | 166 => 60 | 240 => 61 | 276 => 62 | n => n, fun | 0 => 0 | 3 => 3 | 4 => 4 | 5 => 5 | 9 => 9 | 20 => 20 | 37 => 39 | 70 => 38 | 72 => 41 | 75 => 43 | 80 => 48 | 127 => 61 | 164 => 121 | n => n, fun | n => n⟩
theorem xlays166 : Go.Proofs.Lays.n166 Tryd.prog wRen := {
  mixed := by kernel_rfl
  f166 := Tryd.func60.trans (congrArg some (by kernel_rfl))
  f240 := Tryd.func61.trans (congrArg some (by kernel_rfl))
  f276 := Tryd.func62.trans (congrArg some (by kernel_rfl))
  t0 := Tryd.underlying0
  a0 := Tryd.isAgg0
  z0 := Tryd.sizeOf0
  v0 := Tryd.zeroValue0
  t3 := Tryd.underlying3
  a3 := Tryd.isAgg3
  z3 := Tryd.sizeOf3
  v3 := Tryd.zeroValue3
  t4 := Tryd.underlying4
  a4 := Tryd.isAgg4
  z4 := Tryd.sizeOf4
  v4 := Tryd.zeroValue4
  t9 := Tryd.underlying9
  a9 := Tryd.isAgg9
  z9 := Tryd.sizeOf9
  v9 := Tryd.zeroValue9
  t20 := Tryd.underlying20
  a20 := Tryd.isAgg20
  z20 := Tryd.sizeOf20
  v20 := Tryd.zeroValue20
  t37 := Tryd.underlying39
  a37 := Tryd.isAgg39
  z37 := Tryd.sizeOf39
  v37 := Tryd.zeroValue39
  t70 := Tryd.underlying38
  a70 := Tryd.isAgg38
  z70 := Tryd.sizeOf38
  v70 := Tryd.zeroValue38
  t72 := Tryd.underlying41
  a72 := Tryd.isAgg41
  z72 := Tryd.sizeOf41
  v72 := Tryd.zeroValue41
  t75 := Tryd.underlying43
  a75 := Tryd.isAgg43
  z75 := Tryd.sizeOf43
  v75 := Tryd.zeroValue43
  t164 := Tryd.underlying121
  a164 := Tryd.isAgg121
  z164 := Tryd.sizeOf121
  v164 := Tryd.zeroValue121 }
theorem xExtra : Builder.Extra Tryd.prog wRen := {
  sizeBuilder := by kernel_rfl
  liesBuilder := by kernel_rfl
  t5 := Tryd.underlying5
  a5 := Tryd.isAgg5
  z5 := Tryd.sizeOf5
  v5 := Tryd.zeroValue5
  infoByte := by kernel_rfl
  cellsByte := by kernel_rfl
  sizeByte := by kernel_rfl
  neB5 := by decide }

/-- block 'b' is a builder that holds the bytes 'l' -/
def IsB (b : Nat) (l : List UInt8) (w : World) : Prop := Lib.IsBuilderF 41 5 b b (Lib.byteCells l) w
theorem IsB.lt {b : Nat} {l : List UInt8} {w : World} (h : IsB b l w) : b < w.heap.size := by
  rcases h with h | h
  · exact h.lt
  · exact h.lt
theorem atF_below {T e : TypeId} {B b : Nat} {p : Value} {bs : List Value} {w w' : World} (h : Lib.BuilderAtF T e B b p bs w) (hb : Below w.heap.size w w') : Lib.BuilderAtF T e B b p bs w' := by
  have hlt := h.lt
  obtain ⟨hB, v, hbk, hown, hne⟩ := h
  refine ⟨hB, v, (hb.block b hlt).trans hbk, hown.kept (row := none) ⟨hb.os, hb.tape, hb.output, hb.size, fun k hk _ => hb.block k hk⟩ (by cases hv : v.ownBlock <;> simp), hne⟩
theorem IsB.below {b : Nat} {l : List UInt8} {w w' : World} (h : IsB b l w) (hb : Below w.heap.size w w') : IsB b l w' := by
  rcases h with h | h
  · exact .inl (atF_below h hb)
  · exact .inr (atF_below h hb)
theorem strCells_bytes (s : ByteArray) : Lib.strCells s = Lib.byteCells s.data.toList := rfl
theorem byteCells_app (a b : List UInt8) : Lib.byteCells (a ++ b) = Lib.byteCells a ++ Lib.byteCells b := by simp [Lib.byteCells]

theorem writeString_any (b : Nat) (l : List UInt8) (s : ByteArray) (w : World) (h : IsB b l w) (hlen : l.length + s.size ≤ 140737488355328) :
    Calls Tryd.prog 60 #[.pointer (some ⟨b, 0, none⟩), .string s] w fun e w' => e = .returned (.tuple #[.int .i64 s.size, .nilIface]) ∧ IsB b (l ++ s.data.toList) w' ∧ Below b w w' ∧ Lib.OthersKept 5 (some b) w w' := by
  refine (Any.Builder_WriteString_k xlays166 xExtra b b (Lib.byteCells l) s w h (by rw [Lib.byteCells_length]; exact hlen) (Nat.le_of_lt h.lt)).mono ?_
  rintro e w' ⟨rfl, hk, hb, ho⟩
  refine ⟨rfl, ?_, hb, ho⟩
  rw [strCells_bytes, ← byteCells_app] at hk
  exact .inr hk
theorem string_any (b : Nat) (l : List UInt8) (w : World) (h : IsB b l w) :
    Calls Tryd.prog 10 #[.pointer (some ⟨b, 0, none⟩)] w fun e w' => e = .returned (.string ⟨l.toArray⟩) ∧ IsB b l w' ∧ Below b w w' ∧ Lib.OthersKept 5 (some b) w w' :=
  Tryd.Builder_String_any_k b b l w h (Nat.le_of_lt h.lt)
/-- a builder that has not been written -/
theorem fresh_any (w : World) : (w.alloc (.cells #[.pointer none, .slice none 0 0] 41)).heap[w.heap.size]? = some (.cells #[.pointer none, .slice none 0 0] 41 (0, 0)) := heap_alloc_new w _

theorem fresh_isB (w : World) : IsB w.heap.size [] (w.alloc (.cells #[.pointer none, .slice none 0 0] 41)) := Lib.IsBuilderF.of (Lib.fresh_isBuilder _ _ w)

/-- the tables stand whatever is done from block 'b' on -/
def TabsB (b : Nat) (w : World) : Prop := ∀ w', Below b w w' → Tabs w'
theorem TabsB.below {b : Nat} {w w' : World} (h : TabsB b w) (hb : Below b w w') : TabsB b w' := fun _ k => h _ (hb.trans k)
theorem TabsB.tabs {b : Nat} {w : World} (h : TabsB b w) : Tabs w := h w (Below.refl _ _)
theorem tabsB_of {w0 w : World} (h : Tabs w0) (hb : Below w0.heap.size w0 w) : TabsB w0.heap.size w := fun _ k => h.below (hb.trans k)
end Go.Proofs.YtgmhigjhooihdaaDoor

