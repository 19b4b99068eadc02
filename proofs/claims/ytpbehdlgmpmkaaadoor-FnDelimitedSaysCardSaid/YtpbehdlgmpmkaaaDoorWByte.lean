/- strings.Builder's WriteByte beside another row of bytes of the call's own; Grow, String. -/
import Derived.Test.YtpbehdlgmpmkaaaDoorDec
import Derived.Shelf.Strings.BuilderK
import Derived.Shelf.Strings.BuilderCap
import Derived.Maps.AppendAt
set_option linter.unusedVariables false
namespace Go.Proofs.YtpbehdlgmpmkaaaDoor
open Go.Shelf Go.RowKit Plain

/-- block 'b' is a builder that holds the bytes 'l' -/
def IsB (b : Nat) (l : List UInt8) (w : World) : Prop := Lib.IsBuilderF 42 5 b b (Lib.byteCells l) w
theorem byteCells_app (a b : List UInt8) : Lib.byteCells (a ++ b) = Lib.byteCells a ++ Lib.byteCells b := by simp [Lib.byteCells]
theorem string_any (b : Nat) (l : List UInt8) (w : World) (h : IsB b l w) (hlt : b < w.heap.size) :
    Calls Tryd.prog 40 #[.pointer (some ⟨b, 0, none⟩)] w fun e w' => e = .returned (.string ⟨l.toArray⟩) ∧ IsB b l w' ∧ Below b w w' ∧ Lib.OthersKept 5 (some b) w w' :=
  Tryd.Builder_String_any_k b b l w h (Nat.le_of_lt hlt)

/-- block 'b' is a builder that was written or grown, it holds 'l', and its row is not block 'c' -/
def IsBC (b c : Nat) (l : List UInt8) (w : World) : Prop := ∃ v, w.heap[b]? = some (.cells #[.pointer (some ⟨b, 0, none⟩), v] 42 (0, 0)) ∧ w.ownsRow b 5 1 v l.length (Lib.byteCells l) ∧ v.ownBlock ≠ some b ∧ v.ownBlock ≠ some c
theorem IsBC.lt {b c : Nat} {l : List UInt8} {w : World} (h : IsBC b c l w) : b < w.heap.size := by
  obtain ⟨v, hb, _⟩ := h
  rcases Nat.lt_or_ge b w.heap.size with h' | h'
  · exact h'
  · simp [Array.getElem?_eq_none h'] at hb
theorem IsBC.isB {b c : Nat} {l : List UInt8} {w : World} (h : IsBC b c l w) : IsB b l w := by
  obtain ⟨v, hb, hown, hne, _⟩ := h
  refine .inr (Lib.BuilderAtF.of ⟨Nat.le_refl _, v, hb, ?_, hne⟩)
  rwa [Lib.byteCells_length]
theorem IsBC.below {b c : Nat} {l : List UInt8} {w w' : World} (h : IsBC b c l w) (hb : Below w.heap.size w w') : IsBC b c l w' := by
  have hlt := h.lt
  obtain ⟨v, hbk, hown, hne, hnc⟩ := h
  exact ⟨v, (hb.block b hlt).trans hbk, hown.kept (row := none) ⟨hb.os, hb.tape, hb.output, hb.size, fun k hk _ => hb.block k hk⟩ (by cases hv : v.ownBlock <;> simp), hne, hnc⟩

theorem infoByte : (Tryd.prog.info? 5).map (fun i => (i.zero, i.size, i.bytes)) = some (some (.int .u8 0), 1, 1) := by kernel_rfl
set_option maxHeartbeats 1000000 in
set_option maxRecDepth 100000 in
theorem copyCheck_used (b : Nat) (w : World) (h0 : w.cell? ⟨b, 0, none⟩ = some (.pointer (some ⟨b, 0, none⟩))) :
    Calls Tryd.prog 45 #[.pointer (some ⟨b, 0, none⟩)] w fun e w' => e = .returned (.tuple #[]) ∧ w = w' := by
  obtain ⟨j, hj⟩ : ∃ j, Tryd.prog.info? 42 = some j := Option.isSome_iff_exists.1 (by kernel_rfl)
  go_enter Tryd.func45, Tryd.ntmps45
  go_wp2
  rw [Lib.run_neq_ptr_same w _ Tryd.underlying40 hj]
  go_wp2
  go_end0
  exact ⟨rfl, rfl⟩
set_option maxHeartbeats 2000000 in
set_option maxRecDepth 100000 in
theorem writeByte_c (b c : Nat) (l : List UInt8) (x : UInt8) (w : World) (h : IsBC b c l w) (hc : c < w.heap.size) (hbc : c ≠ b) (hlen : l.length + 1 ≤ 140737488355328) :
    Calls Tryd.prog 39 #[.pointer (some ⟨b, 0, none⟩), .int .u8 x.toNat] w fun e w' => e = .returned .nilIface ∧ IsBC b c (l ++ [x]) w' ∧ Below b w w' ∧ w'.heap[c]? = w.heap[c]? := by
  obtain ⟨i0, hi, hz0, hz1, hz2⟩ := info_parts infoByte
  have hlt := h.lt
  obtain ⟨v, hbk, hown, hne, hnc⟩ := h
  have c0 : w.cell? ⟨b, 0, none⟩ = some (.pointer (some ⟨b, 0, none⟩)) := by rw [Lib.cell_of_heap hbk]; rfl
  have c1 : w.cell? ⟨b, 1, none⟩ = some v := by rw [Lib.cell_of_heap hbk]; rfl
  have HBK := Lib.hid hbk
  clear hbk
  go_enter Tryd.func39, Tryd.ntmps39
  go_wp2_with (go_at_call 45; (with_reducible refine (copyCheck_used b _ c0).mono ?_))
  rintro e w1 ⟨rfl, rfl⟩
  dsimp only
  go_wp2_with (at_builtin; refine wpList_append_own_at _ rfl _ _ 35 rfl b 5 i0 (.int .u8 0) 1 1 Tryd.underlying35 hi hz0 hz1 hz2 rfl (by decide) _ _ _ rfl (hown.alloc _) ⟨w.heap.size, 0, none⟩ 1 1 [.int .u8 (x.toNat : Int)] rfl rfl ?c1 ?c2 ?c3 ?c4 ?c5 ?_)
  case c1 => exact cell_one_new _ _ _
  case c2 => intro u hu; simp at hu; subst hu; rfl
  case c3 => unfold maxLen; omega
  case c4 => omega
  case c5 => simp; omega
  intro v' w2 hown' hgrow _ hat
  have hbk := HBK.out
  have hb2 : w2.heap[b]? = some (.cells #[.pointer (some ⟨b, 0, none⟩), v] 42 (0, 0)) := by
    rw [hgrow.block b (by simp; omega) (fun e => hne e.symm), Lib.alloc_old w _ b hlt]
    exact hbk
  have hc2 : w2.heap[c]? = w.heap[c]? := by
    rw [hgrow.block c (by simp; omega) (fun e => hnc e.symm), Lib.alloc_old w _ c hc]
  have hd : v'.ownBlock ≠ some b ∧ v'.ownBlock ≠ some c := by
    rcases hat with e | e
    · rw [e]; exact ⟨hne, hnc⟩
    · rw [e]
      simp
      omega
  have d0 : w2.cell? ⟨b, 0, none⟩ = some (.pointer (some ⟨b, 0, none⟩)) := by rw [Lib.cell_of_heap hb2]; rfl
  have d1 : w2.cell? ⟨b, 1, none⟩ = some v := by rw [Lib.cell_of_heap hb2]; rfl
  have f1 : w2.frozen? ⟨b, 1, none⟩ = false := Lib.frozen_of_heap hb2 1
  obtain ⟨g, cap, rfl⟩ : ∃ g cap, v' = .slice (some ⟨g, 0, none⟩) (l.length + 1) cap := by
    rcases hown'.2 with ⟨_, h0⟩ | ⟨g, cap, cur, hv, _⟩
    · omega
    · exact ⟨g, cap, hv⟩
  have HB2 := Lib.hid hb2
  have HC2 := Lib.hid hc2
  clear hb2 hc2 hbk hat
  go_wp2
  go_ret
  have hw : (w2.setCell ⟨b, 1, none⟩ (.slice (some ⟨g, 0, none⟩) (l.length + 1) cap)).heap[b]? = some (.cells #[.pointer (some ⟨b, 0, none⟩), .slice (some ⟨g, 0, none⟩) (l.length + 1) cap] 42 (0, 0)) := by
    simp [World.setCell, Array.getElem?_modify, HB2.out]
  have hk : w2.grownBy (w2.setCell ⟨b, 1, none⟩ (.slice (some ⟨g, 0, none⟩) (l.length + 1) cap)) (some b) :=
    ⟨rfl, rfl, rfl, by simp [World.setCell], fun k _ hk => Below.heap_setCell _ _ _ _ (fun e => hk (by simp [e]))⟩
  refine ⟨rfl, ⟨_, hw, ?_, hd.1, hd.2⟩, ?_, ?_⟩
  · have := hown'.kept hk (Or.inr (by exact hd.1))
    rw [List.length_append, byteCells_app]
    exact this
  · exact ((((Below.refl b w).alloc (by omega) _).grown hgrow (by simp; omega) (fun k hk => (hown.lt k hk).1))).setCell (p := ⟨b, 1, none⟩) (Nat.le_refl _) _
  · rw [Below.heap_setCell _ _ _ _ hbc]; exact HC2.out
end Go.Proofs.YtpbehdlgmpmkaaaDoor
