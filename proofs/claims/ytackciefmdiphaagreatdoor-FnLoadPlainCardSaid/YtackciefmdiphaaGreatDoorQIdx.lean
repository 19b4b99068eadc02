/- zzIndexRune, zzContainsRune at any small rune: one answer, by a plain function. -/
import Derived.Test.YtackciefmdiphaaGreatDoorQEsc
set_option linter.unusedVariables false
namespace Go.Proofs.YtackciefmdiphaaGreatDoor
open Go.RowKit Plain

/-- where a rune stands in a text from 'pos' on; -1: nowhere -/
def ziF (q : ByteArray) (R : Nat) (pos : Nat) : Int :=
  if h : pos < q.size then
    if (Utf8.decode q pos).1 = R then (pos : Int)
    else ziF q R (pos + (Utf8.decode q pos).2)
  else -1
termination_by q.size - pos
decreasing_by
  have := Lib.decode_width_pos q pos h
  omega
theorem ziF_bd (q : ByteArray) (R : Nat) (pos : Nat) : -1 ≤ ziF q R pos ∧ ziF q R pos < (q.size : Int) + 1 := by
  fun_induction ziF q R pos <;> omega
/-- a rune that has no case of its own in zzIndexRune -/
def SmallR (R : Nat) : Prop := R ≤ 1114111 ∧ (R < 55296 ∨ 57343 < R) ∧ R ≠ 65533
set_option maxHeartbeats 4000000 in
set_option maxRecDepth 100000 in
theorem zi_any (q : ByteArray) (R : Nat) (w : World) (hR : SmallR R) (hq : q.size ≤ 100) (Z : Int) (hZ : ziF q R 0 = Z) :
    Calls Tryz.prog 139 #[.string q, .int .i32 (R : Int)] w fun e w' => e = .returned (.int .i64 Z) ∧ Below w.heap.size w w' := by
  obtain ⟨hR1, hR2, hR3⟩ := hR
  have c1 : ¬ (R : Int) < 0 := by omega
  have c2 : ¬ (1114111 : Int) < (R : Int) := by omega
  have c4 : ((R : Int) == 65533) = false := by rw [beq_eq_false_iff_ne]; omega
  have HZ := Lib.hid hZ
  clear hZ
  rcases hR2 with hlo | hhi
  rotate_left
  have c3 : (55296 : Int) ≤ (R : Int) := by omega
  have c5 : ¬ (R : Int) ≤ 57343 := by omega
  rotate_left
  have c3 : ¬ (55296 : Int) ≤ (R : Int) := by omega
  all_goals
    go_enter Tryz.func139, Tryz.ntmps139
    go_wp2
    go_loopw [5, 6] (fun pv cv wr => ∃ (pos : Nat), wr.heap[w.heap.size]? = some (.stringIter q pos) ∧ pos ≤ q.size + 4 ∧ Below w.heap.size w wr ∧ Hid (ziF q R pos = Z)) (fun _ _ wr => q.size + 4 - wr.iterPos w.heap.size)
    case atStart => exact ⟨0, World.iter_heap w q 0, by omega, (Below.refl _ w).alloc (Nat.le_refl _) _, HZ⟩
    case round =>
      obtain ⟨pos, hit, hps, hbw, HP⟩ := hrel
      by_cases hp : pos < q.size
      · have hnx : ∀ ty, (Instr.next (.pointer (some ⟨w.heap.size, 0, none⟩)) true ty).run Tryz.prog wr = _ := fun ty => Lib.run_next_any_at wr w.heap.size q pos ty hit hp
        have hwd := Lib.decode_width_pos q pos hp
        have hd1 := decode_le q pos
        have hw4 : (Utf8.decode q pos).2 ≤ 4 := by rw [Lib.decode_at]; unfold Lib.decodeN; (repeat' split) <;> simp
        have hst := HP.out
        rw [ziF, dif_pos hp] at hst
        have hit2 := Lib.iterAt_heap wr w.heap.size q pos (pos + (Utf8.decode q pos).2) hit
        have hbw2 := Lib.below_iterAt hbw (k := w.heap.size) (Nat.le_refl _) q (pos + (Utf8.decode q pos).2)
        obtain ⟨C, hC⟩ : ∃ C, (Utf8.decode q pos).1 = C := ⟨_, rfl⟩
        obtain ⟨K, hK⟩ : ∃ K, (Utf8.decode q pos).2 = K := ⟨_, rfl⟩
        rw [hC] at hd1 hst
        rw [hK] at hwd hw4 hit2 hbw2 hst
        rw [hC, hK] at hnx
        clear hC hK
        obtain ⟨V, hV⟩ : ∃ V, wr.iterAt w.heap.size q (pos + K) = V := ⟨_, rfl⟩
        rw [hV] at hnx hit2 hbw2
        have HI := Lib.hid hit
        have HI2 := Lib.hid hit2
        have HB2 := Lib.hid hbw2
        clear hV hit hit2 hbw hbw2
        by_cases he : C = R
        · rw [if_pos he] at hst
          have HST := Lib.hid hst
          subst he
          clear hst
          go_wp2
          go_ret
          exact ⟨congrArg (fun z => Ending.returned (.int .i64 z)) HST.out, HB2.out⟩
        · rw [if_neg he] at hst
          have HST := Lib.hid hst
          have hcz : ((C : Int) == (R : Int)) = false := by rw [beq_eq_false_iff_ne]; omega
          clear hst he
          go_wp2
          go_roundw
          case rel => exact ⟨pos + K, HI2.out, by omega, HB2.out, HST⟩
          case measure =>
            have h1 := HI.out; have h2 := HI2.out
            rw [iterPos_of h2, iterPos_of h1]
            omega
      · have hnx : ∀ ty, (Instr.next (.pointer (some ⟨w.heap.size, 0, none⟩)) true ty).run Tryz.prog wr = _ := fun ty => Lib.run_next_end_at wr w.heap.size q pos ty hit hp
        have hst := HP.out
        rw [ziF, dif_neg hp] at hst
        have HST := Lib.hid hst
        have HB2 := Lib.hid hbw
        clear hbw hst
        go_wp2
        go_ret
        exact ⟨congrArg (fun z => Ending.returned (.int .i64 z)) HST.out, HB2.out⟩
theorem zc_any (q : ByteArray) (R : Nat) (w : World) (hR : SmallR R) (hq : q.size ≤ 100) (b : Bool) (hb : decide (0 ≤ ziF q R 0) = b) :
    Calls Tryz.prog 126 #[.string q, .int .i32 (R : Int)] w fun e w' => e = .returned (.bool b) ∧ Below w.heap.size w w' := by
  obtain ⟨Z, hZ⟩ : ∃ Z, ziF q R 0 = Z := ⟨_, rfl⟩
  have HZ := Lib.hid (zi_any q R w hR hq Z hZ)
  rw [hZ] at hb
  clear hZ
  by_cases h : 0 ≤ Z
  · obtain rfl : b = true := by rw [← hb]; simp [h]
    clear hb
    go_enter Tryz.func126, Tryz.ntmps126
    go_wp2_with (go_at_call 139; (with_reducible refine HZ.out.mono ?_); rintro e w1 ⟨rfl, hb1⟩; dsimp only)
    go_ret
    exact ⟨rfl, hb1⟩
  · obtain rfl : b = false := by rw [← hb]; simp [h]
    clear hb
    go_enter Tryz.func126, Tryz.ntmps126
    go_wp2_with (go_at_call 139; (with_reducible refine HZ.out.mono ?_); rintro e w1 ⟨rfl, hb1⟩; dsimp only)
    go_ret
    exact ⟨rfl, hb1⟩
end Go.Proofs.YtackciefmdiphaaGreatDoor
