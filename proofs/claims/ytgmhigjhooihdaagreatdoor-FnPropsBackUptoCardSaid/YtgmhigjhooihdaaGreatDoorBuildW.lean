/- strings.Builder's WriteString and String, at a dump that has no Grow. -/
import Derived.Test.YtgmhigjhooihdaaGreatDoorDec
import Derived.Shelf.Strings.BuilderK
import Derived.Shelf.Strings.BuilderCap
set_option linter.unusedVariables false
namespace Go.Proofs.YtgmhigjhooihdaaGreatDoor
open Go.Shelf Go.RowKit Plain

def wRen : Go.Shelf.Ren := ⟨fun | 166 => 208 | 240 => 209 | 276 => 210 | n => n, fun | 0 => 0 | 3 => 3 | 4 => 4 | 5 => 5 | 9 => 9 | 20 => 20 | 37 => 83 | 70 => 88 | 72 => 90 | 75 => 80 | 80 => 93 | 127 => 128 | 164 => 275 | n => n, fun | n => n⟩
theorem xlays166 : Go.Proofs.Lays.n166 Tryz.prog wRen := {
  mixed := by kernel_rfl
  f166 := Tryz.func208.trans (congrArg some (by kernel_rfl))
  f240 := Tryz.func209.trans (congrArg some (by kernel_rfl))
  f276 := Tryz.func210.trans (congrArg some (by kernel_rfl))
  t0 := Tryz.underlying0
  a0 := Tryz.isAgg0
  z0 := Tryz.sizeOf0
  v0 := Tryz.zeroValue0
  t3 := Tryz.underlying3
  a3 := Tryz.isAgg3
  z3 := Tryz.sizeOf3
  v3 := Tryz.zeroValue3
  t4 := Tryz.underlying4
  a4 := Tryz.isAgg4
  z4 := Tryz.sizeOf4
  v4 := Tryz.zeroValue4
  t9 := Tryz.underlying9
  a9 := Tryz.isAgg9
  z9 := Tryz.sizeOf9
  v9 := Tryz.zeroValue9
  t20 := Tryz.underlying20
  a20 := Tryz.isAgg20
  z20 := Tryz.sizeOf20
  v20 := Tryz.zeroValue20
  t37 := Tryz.underlying83
  a37 := Tryz.isAgg83
  z37 := Tryz.sizeOf83
  v37 := Tryz.zeroValue83
  t70 := Tryz.underlying88
  a70 := Tryz.isAgg88
  z70 := Tryz.sizeOf88
  v70 := Tryz.zeroValue88
  t72 := Tryz.underlying90
  a72 := Tryz.isAgg90
  z72 := Tryz.sizeOf90
  v72 := Tryz.zeroValue90
  t75 := Tryz.underlying80
  a75 := Tryz.isAgg80
  z75 := Tryz.sizeOf80
  v75 := Tryz.zeroValue80
  t164 := Tryz.underlying275
  a164 := Tryz.isAgg275
  z164 := Tryz.sizeOf275
  v164 := Tryz.zeroValue275 }
theorem xExtra : Builder.Extra Tryz.prog wRen := {
  sizeBuilder := by kernel_rfl
  liesBuilder := by kernel_rfl
  t5 := Tryz.underlying5
  a5 := Tryz.isAgg5
  z5 := Tryz.sizeOf5
  v5 := Tryz.zeroValue5
  infoByte := by kernel_rfl
  cellsByte := by kernel_rfl
  sizeByte := by kernel_rfl
  neB5 := by decide }

/-- block 'b' is a builder that holds the bytes 'l' -/
def IsB (b : Nat) (l : List UInt8) (w : World) : Prop := Lib.IsBuilderF 90 5 b b (Lib.byteCells l) w
theorem IsB.lt {b : Nat} {l : List UInt8} {w : World} (h : IsB b l w) : b < w.heap.size := by
  rcases h with h | h
  · exact h.lt
  · exact h.lt
theorem atF_below {T e : TypeId} {B b : Nat} {p : Value} {bs : List Value} {w w' : World} (h : Lib.BuilderAtF T e B b p bs w) (hb : Below w.heap.size w w') : Lib.BuilderAtF T e B b p bs w' := by
  have hlt := h.lt
  obtain ⟨hB, v, hbk, hown, hne⟩ := h
  refine ⟨hB, v, (hb.block b hlt).trans hbk, hown.kept (row := none) ⟨hb.os, hb.tape, hb.output, hb.size, fun k hk _ => hb.block k hk⟩ (by cases hv : v.ownBlock <;> simp), hne⟩
theorem IsB.below {b : Nat} {l : List UInt8} {w w' : World} (h : IsB b l w) (hb : Below w.heap.size w w') : IsB b l w' := by
  rcases h with h | h
  · exact .inl (atF_below h hb)
  · exact .inr (atF_below h hb)
theorem strCells_bytes (s : ByteArray) : Lib.strCells s = Lib.byteCells s.data.toList := rfl
theorem byteCells_app (a b : List UInt8) : Lib.byteCells (a ++ b) = Lib.byteCells a ++ Lib.byteCells b := by simp [Lib.byteCells]

theorem writeString_any (b : Nat) (l : List UInt8) (s : ByteArray) (w : World) (h : IsB b l w) (hlen : l.length + s.size ≤ 140737488355328) :
    Calls Tryz.prog 208 #[.pointer (some ⟨b, 0, none⟩), .string s] w fun e w' => e = .returned (.tuple #[.int .i64 s.size, .nilIface]) ∧ IsB b (l ++ s.data.toList) w' ∧ Below b w w' ∧ Lib.OthersKept 5 (some b) w w' := by
  refine (Any.Builder_WriteString_k xlays166 xExtra b b (Lib.byteCells l) s w h (by rw [Lib.byteCells_length]; exact hlen) (Nat.le_of_lt h.lt)).mono ?_
  rintro e w' ⟨rfl, hk, hb, ho⟩
  refine ⟨rfl, ?_, hb, ho⟩
  rw [strCells_bytes, ← byteCells_app] at hk
  exact .inr hk
theorem string_any (b : Nat) (l : List UInt8) (w : World) (h : IsB b l w) :
    Calls Tryz.prog 47 #[.pointer (some ⟨b, 0, none⟩)] w fun e w' => e = .returned (.string ⟨l.toArray⟩) ∧ IsB b l w' ∧ Below b w w' ∧ Lib.OthersKept 5 (some b) w w' :=
  Tryz.Builder_String_any_k b b l w h (Nat.le_of_lt h.lt)
/-- a builder that has not been written -/
theorem fresh_any (w : World) : (w.alloc (.cells #[.pointer none, .slice none 0 0] 90)).heap[w.heap.size]? = some (.cells #[.pointer none, .slice none 0 0] 90 (0, 0)) := heap_alloc_new w _

theorem fresh_isB (w : World) : IsB w.heap.size [] (w.alloc (.cells #[.pointer none, .slice none 0 0] 90)) := Lib.IsBuilderF.of (Lib.fresh_isBuilder _ _ w)

/-- the tables stand whatever is done from block 'b' on -/
def TabsB (b : Nat) (w : World) : Prop := ∀ w', Below b w w' → Tabs w'
theorem TabsB.below {b : Nat} {w w' : World} (h : TabsB b w) (hb : Below b w w') : TabsB b w' := fun _ k => h _ (hb.trans k)
theorem TabsB.tabs {b : Nat} {w : World} (h : TabsB b w) : Tabs w := h w (Below.refl _ _)
theorem tabsB_of {w0 w : World} (h : Tabs w0) (hb : Below w0.heap.size w0 w) : TabsB w0.heap.size w := fun _ k => h.below (hb.trans k)
end Go.Proofs.YtgmhigjhooihdaaGreatDoor
