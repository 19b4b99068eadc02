/- What the walks say of the decoder: the piece that it takes off a text; the two tables of package unicode/utf8 lie as they were laid.  -/
import Derived.Test.YtgmhigjhooihdaaGreatDoorShelf
import Derived.Test.YtgmhigjhooihdaaGreatDoorPlain
import Derived.WalkKit
import Derived.WalkSmall
import Derived.Lib.Hide
import Derived.KernelRfl
import Derived.BigQuiet
namespace Go.Proofs.YtgmhigjhooihdaaGreatDoor
open Go.RowKit Plain

theorem ret_int {k : IntKind} {a b : Int} (h : a = b) : Ending.returned (.int k a) = .returned (.int k b) := by rw [h]
theorem ret_bool {a b : Bool} (h : a = b) : Ending.returned (.bool a) = .returned (.bool b) := by rw [h]
theorem ret_str {a b : ByteArray} (h : a = b) : Ending.returned (.string a) = .returned (.string b) := by rw [h]
/-- the decoder's two tables -/
def Tabs (w : World) : Prop := Lib.Utf8Tabs 0 1 w
theorem Tabs.below {w w' : World} (h : Tabs w) (hb : Below w.heap.size w w') : Tabs w' := Utf8Tabs_below h hb

/-- 'R', 'K': the rune that is decoded at a text's head, and its width -/
structure Head (t : ByteArray) (R K : Nat) : Prop where
  pos : 1 ≤ K
  le : K ≤ t.size
  rune : R ≤ 1114111
  seg : segs t.data.toList = t.data.toList.take K :: segs (t.data.toList.drop K)
  run : R = runeOf (t.data.toList.take K)
  dec : Lib.decodeGo t = (R, K)

theorem ne_of_pos {t : ByteArray} (h : 0 < t.size) : t.data.toList ≠ [] := by
  intro e
  have := congrArg List.length e
  rw [← Lib.size_eq, List.length_nil] at this
  omega
theorem head_of (t : ByteArray) (h : 0 < t.size) : ∃ R K, Head t R K := by
  have hne := ne_of_pos h
  have e : Lib.decodeGo t = Lib.decodeL t.data.toList := by
    unfold Lib.decodeGo
    rw [if_neg (by omega), ← Lib.decodeL_drop]
    rfl
  refine ⟨(Lib.decodeL t.data.toList).1, (Lib.decodeL t.data.toList).2, Lib.decodeL_width _, ?_, Lib.decodeL_rune _, segs_step _ hne, ?_, e⟩
  · rw [Lib.size_eq]; exact Lib.decodeL_le _ hne
  · unfold runeOf
    rw [decodeL_take _ hne]

theorem decode_any (t : ByteArray) (w : World) (hT : Tabs w) (R K : Nat) (h : Hid (Head t R K)) :
    Calls Tryz.prog 102 #[.string t] w fun e w' => e = .returned (.tuple #[.int .i32 R, .int .i64 K]) ∧ Below w.heap.size w w' := by
  have := Tryz.utf8_DecodeRuneInString t w hT
  rwa [h.out.dec] at this

/-- what is left behind the head -/
theorem rest_of (t : ByteArray) (K : Nat) : (t.extract K t.size).data.toList = t.data.toList.drop K ∧ (t.extract K t.size).size = t.size - K := by
  refine ⟨?_, by simp⟩
  rw [Lib.extract_data, List.take_of_length_le]
  rw [List.length_drop, ← Lib.size_eq]
  omega
theorem segs_rest (t : ByteArray) (R K : Nat) (h : Head t R K) : segs t.data.toList = t.data.toList.take K :: segs (t.extract K t.size).data.toList := by
  rw [(rest_of t K).1]; exact h.seg
theorem segs_empty (t : ByteArray) (h : ¬ 0 < t.size) : segs t.data.toList = [] := by
  rw [segs_eq_nil]
  apply List.eq_nil_of_length_eq_zero
  rw [← Lib.size_eq]
  omega

theorem below_iter (w : World) (s : ByteArray) (pos : Nat) : Below w.heap.size w (w.iter s pos) := (Below.refl _ w).alloc (Nat.le_refl _) _
theorem bthen {w w1 w2 : World} (h : Below w.heap.size w w1) (k : Below w1.heap.size w1 w2) : Below w.heap.size w w2 := h.trans (k.mono h.size)
end Go.Proofs.YtgmhigjhooihdaaGreatDoor
