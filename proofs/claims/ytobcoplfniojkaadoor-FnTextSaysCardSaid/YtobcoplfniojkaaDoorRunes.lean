/- The walk of laws.runes: the characters of a text, one by one, in a new slice of the call's own. -/
import Derived.Test.YtobcoplfniojkaaDoorProg
import Derived.Test.YtobcoplfniojkaaDoorPlain
import Derived.WalkKit
import Derived.WalkSmall
import Derived.Maps.AppendAt
import Derived.KernelRfl
import Derived.Lib.Hide
namespace Go.Proofs.YtobcoplfniojkaaDoor
open Go.RowKit Plain

theorem infoRune : (Tryd.prog.info? 21).map (fun i => (i.zero, i.size, i.bytes)) = some (some (.int .i32 0), 1, 4) := by kernel_rfl

/-- the cells of a list of runes -/
def rcells (l : List Nat) : List Value := l.map fun (r : Nat) => Value.int .i32 (r : Int)
theorem rcells_append (a b : List Nat) : rcells (a ++ b) = rcells a ++ rcells b := by simp [rcells]
theorem rcells_length (a : List Nat) : (rcells a).length = a.length := by simp [rcells]
/-- the runes of a text -/
def rnsOf (l : List UInt8) : List Nat := (segs l).map runeOf
theorem rnsOf_step (s : ByteArray) (pos : Nat) (hp : pos < s.size) : rnsOf (s.data.toList.drop pos) = (Utf8.decode s pos).1 :: rnsOf (s.data.toList.drop (pos + (Utf8.decode s pos).2)) := by
  have hne : s.data.toList.drop pos ≠ [] := by
    intro e
    have := congrArg List.length e
    rw [List.length_drop, ← Lib.size_eq] at this
    simp at this
    omega
  unfold rnsOf
  rw [segs_step _ hne, List.map_cons, List.drop_drop, Lib.decodeL_drop]
  congr 1
  unfold runeOf
  have := decodeL_take _ hne
  rw [Lib.decodeL_drop] at this
  rw [this]
theorem rnsOf_length_le (l : List UInt8) : (rnsOf l).length ≤ l.length := by
  unfold rnsOf
  rw [List.length_map]
  exact segs_length_le l

/-- behind an append to an owned row: the iterator ahead of it stands, and all below -/
theorem keep_iter {w0 wr w1 : World} {B : Nat} {e : TypeId} {v : Value} {n : Nat} {xs : List Value} {o it : Obj} (hit : wr.heap[B]? = some it) (hown : wr.ownsRow (B + 1) e 1 v n xs) (hbw : Below B w0 wr) (hgr : (wr.alloc o).grownBy w1 v.ownBlock) :
    w1.heap[B]? = some it ∧ Below B w0 w1 := by
  have hsz : B < wr.heap.size := (Array.getElem?_eq_some_iff.1 hit).1
  have hne : some B ≠ v.ownBlock := fun e => by have := hown.lt B e.symm; omega
  have h1 : (wr.alloc o).heap[B]? = some it := (Lib.alloc_old wr o B hsz).trans hit
  exact ⟨(hgr.block B (by simp; omega) hne).trans h1, (hbw.alloc (by omega) o).grown hgr (by simp; omega) (fun k hk => by have := hown.lt k hk; omega)⟩

set_option maxHeartbeats 1000000 in
set_option maxRecDepth 100000 in
theorem runes_any (s : ByteArray) (w : World) (hs : s.size ≤ 2147483647) :
    Calls Tryd.prog 14 #[.string s] w fun e w' => ∃ v, e = .returned v ∧ w'.ownsRow (w.heap.size + 1) 21 1 v (rnsOf s.data.toList).length (rcells (rnsOf s.data.toList)) ∧ Below w.heap.size w w' := by
  obtain ⟨i0, hi, hz0, hz1, hz2⟩ := info_parts infoRune
  obtain ⟨ALL, hALL⟩ : ∃ ALL, rnsOf s.data.toList = ALL := ⟨_, rfl⟩
  rw [hALL]
  have HA := Lib.hid hALL
  clear hALL
  go_enter Tryd.func14, Tryd.ntmps14
  go_wp2
  go_loopw [3] (fun v wr => ∃ (pos : Nat) (acc : List Nat), wr.heap[w.heap.size]? = some (.stringIter s pos) ∧ acc.length ≤ pos ∧ pos ≤ s.size + 4 ∧ wr.ownsRow (w.heap.size + 1) 21 1 v acc.length (rcells acc) ∧ Below w.heap.size w wr ∧ acc ++ rnsOf (s.data.toList.drop pos) = ALL) (fun _ wr => s.size - wr.iterPos w.heap.size)
  case atStart =>
    refine ⟨0, [], ?_, by simp, by omega, World.ownsRow_nil _ _ _ _, ?_, ?_⟩
    · exact World.iter_heap w s 0
    · exact (Below.refl _ w).alloc (Nat.le_refl _) _
    · simpa using HA.out
  case round =>
    obtain ⟨pos, acc, hit, hal, hps, hown, hbw, hacc⟩ := hrel
    have HC := Lib.hid hacc
    clear hacc
    have hsz : w.heap.size < wr.heap.size := (Array.getElem?_eq_some_iff.1 hit).1
    by_cases hp : pos < s.size
    · have hnx : ∀ ty, (Instr.next (.pointer (some ⟨w.heap.size, 0, none⟩)) true ty).run Tryd.prog wr = _ := fun ty => Lib.run_next_any_at wr w.heap.size s pos ty hit hp
      have hwd := Lib.decode_width_pos s pos hp
      have hd1 := decode_le s pos
      have hw4 : (Utf8.decode s pos).2 ≤ 4 := by rw [Lib.decode_at]; unfold Lib.decodeN; (repeat' split) <;> simp
      have hown2 := ownsRow_iterAt hown (k := w.heap.size) (by omega) s (pos + (Utf8.decode s pos).2)
      have hit2 := Lib.iterAt_heap wr w.heap.size s pos (pos + (Utf8.decode s pos).2) hit
      have hbw2 := Lib.below_iterAt hbw (k := w.heap.size) (by omega) s (pos + (Utf8.decode s pos).2)
      have hsz2 : (wr.iterAt w.heap.size s (pos + (Utf8.decode s pos).2)).heap.size = wr.heap.size := Lib.iterAt_size _ _ _ _
      have HS := Lib.hid (rnsOf_step s pos hp)
      have HZ := Lib.hid hsz2
      clear hsz2
      obtain ⟨R, hR⟩ : ∃ R, (Utf8.decode s pos).1 = R := ⟨_, rfl⟩
      obtain ⟨K, hK⟩ : ∃ K, (Utf8.decode s pos).2 = K := ⟨_, rfl⟩
      rw [hR, hK] at HS
      rw [hR] at hd1
      rw [hK] at hwd hw4 hown2 hit2 hbw2 HZ
      rw [hR, hK] at hnx
      clear hR hK
      have hle : acc.length + 1 ≤ maxLen := by unfold maxLen; omega
      go_wp2_with (at_builtin; refine wpList_append_own _ rfl (.tmp 11) (.tmp 13) 24 rfl (w.heap.size + 1) 21 i0 (.int .i32 0) 1 4 Tryd.underlying24 hi hz0 hz1 hz2 rfl (by decide) _ _ _ rfl (hown2.alloc _) ⟨(wr.iterAt w.heap.size s (pos + K)).heap.size, 0, none⟩ 1 1 [.int .i32 (R : Int)] rfl rfl ?c1 ?c2 ?c3 ?c4 ?c5 ?_)
      case c1 => exact cell_one_new _ _ _
      case c2 => intro u hu; simp at hu; subst hu; rfl
      case c3 => exact hle
      case c4 => omega
      case c5 => have := HZ.out; simp; omega
      intro v' w1 hown3 hgr _
      obtain ⟨hit3, hbw3⟩ := keep_iter hit2 hown2 hbw2 hgr
      clear hgr hown2 hbw2 hnx
      go_wp2
      go_roundw
      case rel =>
        refine ⟨pos + K, acc ++ [R], hit3, by simp; omega, by omega, ?_, hbw3, ?_⟩
        · simpa [rcells] using hown3
        · rw [List.append_assoc]; have := HC.out; rw [HS.out] at this; simpa using this
      case measure =>
        rw [iterPos_of hit3, iterPos_of hit]
        omega
    · have hnx : ∀ ty, (Instr.next (.pointer (some ⟨w.heap.size, 0, none⟩)) true ty).run Tryd.prog wr = _ := fun ty => Lib.run_next_end_at wr w.heap.size s pos ty hit hp
      go_wp2
      go_ret
      have e0 : s.data.toList.drop pos = [] := List.drop_eq_nil_of_le (by rw [← Lib.size_eq]; omega)
      have := HC.out
      rw [e0] at this
      simp [rnsOf, segs_nil] at this
      subst this
      exact ⟨_, rfl, hown, hbw⟩

theorem runes_slice (s : ByteArray) (w : World) (hs : s.size ≤ 2147483647) :
    Calls Tryd.prog 14 #[.string s] w fun e w' => ∃ ad cap, e = .returned (.slice ad (rnsOf s.data.toList).length cap) ∧ w'.ownsRow (w.heap.size + 1) 21 1 (.slice ad (rnsOf s.data.toList).length cap) (rnsOf s.data.toList).length (rcells (rnsOf s.data.toList)) ∧ Below w.heap.size w w' := by
  refine (runes_any s w hs).mono ?_
  rintro e w' ⟨v, rfl, hown, hb⟩
  obtain ⟨ad, cap, hv⟩ : ∃ ad cap, v = .slice ad (rnsOf s.data.toList).length cap := by
    rcases hown.2 with ⟨hv, h0⟩ | ⟨g, cap, cur, hv, _⟩
    · exact ⟨none, 0, by rw [hv, h0]⟩
    · exact ⟨_, _, hv⟩
  exact ⟨ad, cap, by rw [hv], by rw [← hv]; exact hown, hb⟩
end Go.Proofs.YtobcoplfniojkaaDoor
