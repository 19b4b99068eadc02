/- The walks of the properties' escape and encode, at letters and digits. -/
import Derived.Test.YtackciefmdiphaaGreatDoorDec
import Derived.LoopTactic
set_option linter.unusedVariables false
namespace Go.Proofs.YtackciefmdiphaaGreatDoor
open Go.RowKit Plain

/-- a character that is written as it is -/
def NiceR (R : Nat) : Prop := 48 ≤ R ∧ R < 128 ∧ R ≠ 58 ∧ R ≠ 61 ∧ R ≠ 92
set_option maxHeartbeats 4000000 in
set_option maxRecDepth 100000 in
theorem zi_no (q : ByteArray) (R : Nat) (w : World) (hR : R < 128) (hq : q.size ≤ 100) (hn : ∀ pos, pos < q.size → (Utf8.decode q pos).1 ≠ R) :
    Calls Tryz.prog 139 #[.string q, .int .i32 (R : Int)] w fun e w' => e = .returned (.int .i64 (-1)) ∧ Below w.heap.size w w' := by
  have c1 : ¬ (R : Int) < 0 := by omega
  have c2 : ¬ (1114111 : Int) < (R : Int) := by omega
  have c3 : ¬ (55296 : Int) ≤ (R : Int) := by omega
  have c4 : ((R : Int) == 65533) = false := by rw [beq_eq_false_iff_ne]; omega
  have HN := Lib.hid hn
  clear hn
  go_enter Tryz.func139, Tryz.ntmps139
  go_wp2
  go_loopw [5, 6] (fun pv cv wr => ∃ (pos : Nat), wr.heap[w.heap.size]? = some (.stringIter q pos) ∧ pos ≤ q.size + 4 ∧ Below w.heap.size w wr) (fun _ _ wr => q.size + 4 - wr.iterPos w.heap.size)
  case atStart => exact ⟨0, World.iter_heap w q 0, by omega, (Below.refl _ w).alloc (Nat.le_refl _) _⟩
  case round =>
    obtain ⟨pos, hit, hps, hbw⟩ := hrel
    by_cases hp : pos < q.size
    · have hnx : ∀ ty, (Instr.next (.pointer (some ⟨w.heap.size, 0, none⟩)) true ty).run Tryz.prog wr = _ := fun ty => Lib.run_next_any_at wr w.heap.size q pos ty hit hp
      have hwd := Lib.decode_width_pos q pos hp
      have hd1 := decode_le q pos
      have hw4 : (Utf8.decode q pos).2 ≤ 4 := by rw [Lib.decode_at]; unfold Lib.decodeN; (repeat' split) <;> simp
      have hne := HN.out pos hp
      have hit2 := Lib.iterAt_heap wr w.heap.size q pos (pos + (Utf8.decode q pos).2) hit
      have hbw2 := Lib.below_iterAt hbw (k := w.heap.size) (Nat.le_refl _) q (pos + (Utf8.decode q pos).2)
      obtain ⟨C, hC⟩ : ∃ C, (Utf8.decode q pos).1 = C := ⟨_, rfl⟩
      obtain ⟨K, hK⟩ : ∃ K, (Utf8.decode q pos).2 = K := ⟨_, rfl⟩
      rw [hC] at hd1 hne
      rw [hK] at hwd hw4 hit2 hbw2
      rw [hC, hK] at hnx
      clear hC hK
      have hcz : ((C : Int) == (R : Int)) = false := by rw [beq_eq_false_iff_ne]; omega
      obtain ⟨V, hV⟩ : ∃ V, wr.iterAt w.heap.size q (pos + K) = V := ⟨_, rfl⟩
      rw [hV] at hnx hit2 hbw2
      have HI := Lib.hid hit
      have HI2 := Lib.hid hit2
      have HB2 := Lib.hid hbw2
      clear hV hit hit2 hbw hbw2 hne
      go_wp2
      go_roundw
      case rel => exact ⟨pos + K, HI2.out, by omega, HB2.out⟩
      case measure =>
        have h1 := HI.out; have h2 := HI2.out
        rw [iterPos_of h2, iterPos_of h1]
        omega
    · have hnx : ∀ ty, (Instr.next (.pointer (some ⟨w.heap.size, 0, none⟩)) true ty).run Tryz.prog wr = _ := fun ty => Lib.run_next_end_at wr w.heap.size q pos ty hit hp
      have HB2 := Lib.hid hbw
      clear hbw
      go_wp2
      go_ret
      exact ⟨rfl, HB2.out⟩
theorem zc_no (q : ByteArray) (R : Nat) (w : World) (hR : R < 128) (hq : q.size ≤ 100) (hn : ∀ pos, pos < q.size → (Utf8.decode q pos).1 ≠ R) :
    Calls Tryz.prog 126 #[.string q, .int .i32 (R : Int)] w fun e w' => e = .returned (.bool false) ∧ Below w.heap.size w w' := by
  have HZ := Lib.hid (zi_no q R w hR hq hn)
  go_enter Tryz.func126, Tryz.ntmps126
  go_wp2_with (go_at_call 139; (with_reducible refine HZ.out.mono ?_); rintro e w1 ⟨rfl, hb1⟩; dsimp only)
  go_ret
  exact ⟨rfl, hb1⟩
set_option maxHeartbeats 4000000 in
set_option maxRecDepth 100000 in
theorem escape_nice (q : ByteArray) (R : Nat) (w : World) (h : NiceR R) (hq : q.size ≤ 100) (hn : ∀ pos, pos < q.size → (Utf8.decode q pos).1 ≠ R) :
    Calls Tryz.prog 104 #[.int .i32 (R : Int), .string q] w fun e w' => e = .returned (.string (Utf8.encode (R : Int))) ∧ Below w.heap.size w w' := by
  obtain ⟨h1, h2, h3, h4, h5⟩ := h
  have HZ := Lib.hid (zc_no q R w h2 hq hn)
  have d1 : ((R : Int) == 12) = false := by rw [beq_eq_false_iff_ne]; omega
  have d2 : ((R : Int) == 10) = false := by rw [beq_eq_false_iff_ne]; omega
  have d3 : ((R : Int) == 13) = false := by rw [beq_eq_false_iff_ne]; omega
  have d4 : ((R : Int) == 9) = false := by rw [beq_eq_false_iff_ne]; omega
  have d5 : ((R : Int) == 92) = false := by rw [beq_eq_false_iff_ne]; omega
  clear h3 h4 h5 hn
  go_enter Tryz.func104, Tryz.ntmps104
  go_wp2_with (go_at_call 126; (with_reducible refine HZ.out.mono ?_); rintro e w1 ⟨rfl, hb1⟩; dsimp only)
  go_ret
  exact ⟨rfl, hb1⟩
end Go.Proofs.YtackciefmdiphaaGreatDoor
