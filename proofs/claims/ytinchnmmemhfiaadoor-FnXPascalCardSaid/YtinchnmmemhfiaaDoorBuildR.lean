/- strings.Builder's WriteRune and String, at a dump that has neither Grow nor WriteString. -/
import Derived.Test.YtinchnmmemhfiaaDoorDec
import Derived.Shelf.Strings.BuilderK
import Derived.Shelf.Strings.BuilderRune
set_option linter.unusedVariables false
namespace Go.Proofs.YtinchnmmemhfiaaDoor
open Go.Shelf Go.RowKit Plain

def rRen : Go.Shelf.Ren := ⟨fun | 168 => 20 | 240 => 26 | 242 => 27 | 276 => 31 | 278 => 32 | n => n, fun | 0 => 0 | 3 => 3 | 4 => 4 | 5 => 5 | 9 => 9 | 20 => 20 | 21 => 21 | 37 => 26 | 46 => 47 | 51 => 40 | 70 => 28 | 72 => 30 | 75 => 36 | 80 => 39 | 127 => 46 | 164 => 65 | n => n, fun | n => n⟩
theorem xlays168 : Go.Proofs.Lays.n168 Tryd.prog rRen := {
  mixed := by kernel_rfl
  f168 := Tryd.func20.trans (congrArg some (by kernel_rfl))
  f240 := Tryd.func26.trans (congrArg some (by kernel_rfl))
  f242 := Tryd.func27.trans (congrArg some (by kernel_rfl))
  f278 := Tryd.func32.trans (congrArg some (by kernel_rfl))
  f276 := Tryd.func31.trans (congrArg some (by kernel_rfl))
  t0 := Tryd.underlying0
  a0 := Tryd.isAgg0
  z0 := Tryd.sizeOf0
  v0 := Tryd.zeroValue0
  t3 := Tryd.underlying3
  a3 := Tryd.isAgg3
  z3 := Tryd.sizeOf3
  v3 := Tryd.zeroValue3
  t4 := Tryd.underlying4
  a4 := Tryd.isAgg4
  z4 := Tryd.sizeOf4
  v4 := Tryd.zeroValue4
  t5 := Tryd.underlying5
  a5 := Tryd.isAgg5
  z5 := Tryd.sizeOf5
  v5 := Tryd.zeroValue5
  t9 := Tryd.underlying9
  a9 := Tryd.isAgg9
  z9 := Tryd.sizeOf9
  v9 := Tryd.zeroValue9
  t20 := Tryd.underlying20
  a20 := Tryd.isAgg20
  z20 := Tryd.sizeOf20
  v20 := Tryd.zeroValue20
  t21 := Tryd.underlying21
  a21 := Tryd.isAgg21
  z21 := Tryd.sizeOf21
  v21 := Tryd.zeroValue21
  t37 := Tryd.underlying26
  a37 := Tryd.isAgg26
  z37 := Tryd.sizeOf26
  v37 := Tryd.zeroValue26
  t46 := Tryd.underlying47
  a46 := Tryd.isAgg47
  z46 := Tryd.sizeOf47
  v46 := Tryd.zeroValue47
  t51 := Tryd.underlying40
  a51 := Tryd.isAgg40
  z51 := Tryd.sizeOf40
  v51 := Tryd.zeroValue40
  t70 := Tryd.underlying28
  a70 := Tryd.isAgg28
  z70 := Tryd.sizeOf28
  v70 := Tryd.zeroValue28
  t72 := Tryd.underlying30
  a72 := Tryd.isAgg30
  z72 := Tryd.sizeOf30
  v72 := Tryd.zeroValue30
  t75 := Tryd.underlying36
  a75 := Tryd.isAgg36
  z75 := Tryd.sizeOf36
  v75 := Tryd.zeroValue36
  t164 := Tryd.underlying65
  a164 := Tryd.isAgg65
  z164 := Tryd.sizeOf65
  v164 := Tryd.zeroValue65 }
theorem rExtra : Builder.Extra Tryd.prog rRen := {
  sizeBuilder := by kernel_rfl
  liesBuilder := by kernel_rfl
  t5 := Tryd.underlying5
  a5 := Tryd.isAgg5
  z5 := Tryd.sizeOf5
  v5 := Tryd.zeroValue5
  infoByte := by kernel_rfl
  cellsByte := by kernel_rfl
  sizeByte := by kernel_rfl
  neB5 := by decide }

/-- block 'b' is a builder that holds the bytes 'l' -/
def IsB (b : Nat) (l : List UInt8) (w : World) : Prop := Lib.IsBuilderF 30 5 b b (Lib.byteCells l) w
theorem IsB.lt {b : Nat} {l : List UInt8} {w : World} (h : IsB b l w) : b < w.heap.size := by
  rcases h with h | h
  · exact h.lt
  · exact h.lt
theorem atF_below {T e : TypeId} {B b : Nat} {p : Value} {bs : List Value} {w w' : World} (h : Lib.BuilderAtF T e B b p bs w) (hb : Below w.heap.size w w') : Lib.BuilderAtF T e B b p bs w' := by
  have hlt := h.lt
  obtain ⟨hB, v, hbk, hown, hne⟩ := h
  refine ⟨hB, v, (hb.block b hlt).trans hbk, hown.kept (row := none) ⟨hb.os, hb.tape, hb.output, hb.size, fun k hk _ => hb.block k hk⟩ (by cases hv : v.ownBlock <;> simp), hne⟩
theorem IsB.below {b : Nat} {l : List UInt8} {w w' : World} (h : IsB b l w) (hb : Below w.heap.size w w') : IsB b l w' := by
  rcases h with h | h
  · exact .inl (atF_below h hb)
  · exact .inr (atF_below h hb)
theorem byteCells_app (a b : List UInt8) : Lib.byteCells (a ++ b) = Lib.byteCells a ++ Lib.byteCells b := by simp [Lib.byteCells]

theorem string_any (b : Nat) (l : List UInt8) (w : World) (h : IsB b l w) :
    Calls Tryd.prog 21 #[.pointer (some ⟨b, 0, none⟩)] w fun e w' => e = .returned (.string ⟨l.toArray⟩) ∧ IsB b l w' ∧ Below b w w' ∧ Lib.OthersKept 5 (some b) w w' :=
  Tryd.Builder_String_any_k b b l w h (Nat.le_of_lt h.lt)
/-- a builder that has not been written -/
theorem fresh_any (w : World) : (w.alloc (.cells #[.pointer none, .slice none 0 0] 30)).heap[w.heap.size]? = some (.cells #[.pointer none, .slice none 0 0] 30 (0, 0)) := heap_alloc_new w _

theorem fresh_isB (w : World) : IsB w.heap.size [] (w.alloc (.cells #[.pointer none, .slice none 0 0] 30)) := Lib.IsBuilderF.of (Lib.fresh_isBuilder _ _ w)

/-- the tables stand whatever is done from block 'b' on -/
def TabsB (b : Nat) (w : World) : Prop := ∀ w', Below b w w' → Tabs w'
theorem TabsB.below {b : Nat} {w w' : World} (h : TabsB b w) (hb : Below b w w') : TabsB b w' := fun _ k => h _ (hb.trans k)
theorem TabsB.tabs {b : Nat} {w : World} (h : TabsB b w) : Tabs w := h w (Below.refl _ _)
theorem tabsB_of {w0 w : World} (h : Tabs w0) (hb : Below w0.heap.size w0 w) : TabsB w0.heap.size w := fun _ k => h.below (hb.trans k)
theorem writeRune_any (b : Nat) (l : List UInt8) (r : Int) (w : World) (hr0 : -2147483648 ≤ r) (hr1 : r ≤ 2147483647) (h : IsB b l w) (hlen : l.length + 4 ≤ 140737488355328) :
    Calls Tryd.prog 20 #[.pointer (some ⟨b, 0, none⟩), .int .i32 r] w fun e w' => e = .returned (.tuple #[.int .i64 (Lib.runeCells r).length, .nilIface]) ∧ IsB b (l ++ Lib.encodeRune r) w' ∧ Below b w w' ∧ Lib.OthersKept 5 (some b) w w' := by
  refine (Any.Builder_WriteRune_k xlays168 rExtra b b (Lib.byteCells l) r hr0 hr1 w h (by rw [Lib.byteCells_length]; exact hlen) (Nat.le_of_lt h.lt)).mono ?_
  rintro e w' ⟨rfl, hk, hb, ho⟩
  refine ⟨rfl, ?_, hb, ho⟩
  rw [← Lib.byteCells_encodeRune, ← byteCells_app] at hk
  exact .inr hk
end Go.Proofs.YtinchnmmemhfiaaDoor
