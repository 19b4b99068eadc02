/- The walks of laws.small, laws.begins at one byte, laws.plain. -/
import Derived.Test.YtgmhigjhooihdaaGreatDoorZzIt
import Derived.Test.YtgmhigjhooihdaaGreatDoorValid
import Derived.Test.YtgmhigjhooihdaaGreatDoorBoolP
import Derived.LoopTactic
import Derived.Deep.LoopGhost
set_option linter.unusedVariables false
namespace Go.Proofs.YtgmhigjhooihdaaGreatDoor
open Go.RowKit Plain

theorem smR_cases (C : Nat) : (C = 9 ∨ C = 10 ∨ C = 13 ∨ C = 12 ∨ (32 ≤ C ∧ C < 127) ∨ (160 ≤ C ∧ C ≤ 65535 ∧ C ≠ 65279 ∧ C ≠ 65533)) ∧ smR C = true ∨ (C = 65279 ∨ C = 65533 ∨ 65535 < C ∨ (C < 32 ∧ C ≠ 9 ∧ C ≠ 10 ∧ C ≠ 13 ∧ C ≠ 12) ∨ (127 ≤ C ∧ C < 160)) := by
  by_cases h : C = 65279 ∨ C = 65533 ∨ 65535 < C ∨ (C < 32 ∧ C ≠ 9 ∧ C ≠ 10 ∧ C ≠ 13 ∧ C ≠ 12) ∨ (127 ≤ C ∧ C < 160)
  · exact .inr h
  · refine .inl ⟨by omega, ?_⟩
    unfold smR
    simp
    omega
set_option maxHeartbeats 8000000 in
set_option maxRecDepth 100000 in
theorem small_any (s : ByteArray) (w : World) (hs : s.size ≤ 2147483647) :
    Calls Tryz.prog 48 #[.string s] w fun e w' => BoolP (∀ R ∈ rn s, smR R = true) e ∧ Below w.heap.size w w' := by
  go_enter Tryz.func48, Tryz.ntmps48
  go_wp2
  go_loopw [4] (fun cv wr => ∃ (pos : Nat), wr.heap[w.heap.size]? = some (.stringIter s pos) ∧ pos ≤ s.size + 4 ∧ Hid (Below w.heap.size w wr) ∧ Hid (∀ R ∈ rn s, smR R = true ∨ R ∈ rnsOf (s.data.toList.drop pos))) (fun _ wr => s.size + 4 - wr.iterPos w.heap.size)
  case atStart => exact ⟨0, World.iter_heap w s 0, by omega, Lib.hid ((Below.refl _ w).alloc (Nat.le_refl _) _), Lib.hid (fun R hR => .inr (by rw [List.drop_zero]; exact hR))⟩
  case round =>
    obtain ⟨pos, hit, hps, HB, HP⟩ := hrel
    by_cases hp : pos < s.size
    · have hnx : ∀ ty, (Instr.next (.pointer (some ⟨w.heap.size, 0, none⟩)) true ty).run Tryz.prog wr = _ := fun ty => Lib.run_next_any_at wr w.heap.size s pos ty hit hp
      have hwd := Lib.decode_width_pos s pos hp
      have hw4 : (Utf8.decode s pos).2 ≤ 4 := by rw [Lib.decode_at]; unfold Lib.decodeN; (repeat' split) <;> simp
      have hrs := rnsOf_step s pos hp
      have hit2 := Lib.iterAt_heap wr w.heap.size s pos (pos + (Utf8.decode s pos).2) hit
      have hbw2 := Lib.below_iterAt HB.out (k := w.heap.size) (Nat.le_refl _) s (pos + (Utf8.decode s pos).2)
      have hd1 := decode_le s pos
      obtain ⟨C, hC⟩ : ∃ C, (Utf8.decode s pos).1 = C := ⟨_, rfl⟩
      obtain ⟨K, hK⟩ : ∃ K, (Utf8.decode s pos).2 = K := ⟨_, rfl⟩
      rw [hK] at hwd hw4 hit2 hbw2
      rw [hC, hK] at hnx hrs
      rw [hC] at hd1
      clear hC hK
      obtain ⟨V, hV⟩ : ∃ V, wr.iterAt w.heap.size s (pos + K) = V := ⟨_, rfl⟩
      rw [hV] at hnx hit2 hbw2
      have HI := Lib.hid hit
      have HI2 := Lib.hid hit2
      have HB2 := Lib.hid hbw2
      have HP2 : Hid (smR C = true → ∀ R ∈ rn s, smR R = true ∨ R ∈ rnsOf (s.data.toList.drop (pos + K))) := Lib.hid (fun h R hR => by
        rcases HP.out R hR with h1 | h1
        · exact .inl h1
        · rw [hrs] at h1
          rcases List.mem_cons.1 h1 with rfl | h1
          · exact .inl h
          · exact .inr h1)
      clear hV hit hit2 hbw2 hrs
      rcases smR_cases C with ⟨hc, hsm⟩ | hc
      · have HP3 := Lib.hid (HP2.out hsm)
        clear hsm HP2
        rcases hc with rfl | rfl | rfl | rfl | ⟨h1, h2⟩ | ⟨h1, h2, h3, h4⟩
        ·
          go_wp2
          go_roundw
          case rel => exact ⟨pos + K, HI2.out, by omega, HB2, HP3⟩
          case measure =>
            have h1 := HI.out; have h2 := HI2.out
            rw [iterPos_of h2, iterPos_of h1]
            omega
        ·
          go_wp2
          go_roundw
          case rel => exact ⟨pos + K, HI2.out, by omega, HB2, HP3⟩
          case measure =>
            have h1 := HI.out; have h2 := HI2.out
            rw [iterPos_of h2, iterPos_of h1]
            omega
        ·
          go_wp2
          go_roundw
          case rel => exact ⟨pos + K, HI2.out, by omega, HB2, HP3⟩
          case measure =>
            have h1 := HI.out; have h2 := HI2.out
            rw [iterPos_of h2, iterPos_of h1]
            omega
        ·
          go_wp2
          go_roundw
          case rel => exact ⟨pos + K, HI2.out, by omega, HB2, HP3⟩
          case measure =>
            have h1 := HI.out; have h2 := HI2.out
            rw [iterPos_of h2, iterPos_of h1]
            omega
        · have z1 : ¬ (65535 : Int) < (C : Int) := by omega
          have z2 : ¬ (C : Int) < 32 := by omega
          have z3 : ¬ (127 : Int) ≤ (C : Int) := by omega
          have z4 : ((C : Int) == 65279) = false := by rw [beq_eq_false_iff_ne]; omega
          have z5 : ((C : Int) == 65533) = false := by rw [beq_eq_false_iff_ne]; omega
          go_wp2
          go_roundw
          case rel => exact ⟨pos + K, HI2.out, by omega, HB2, HP3⟩
          case measure =>
            have h1 := HI.out; have h2 := HI2.out
            rw [iterPos_of h2, iterPos_of h1]
            omega
        · have z1 : ¬ (65535 : Int) < (C : Int) := by omega
          have z2 : ¬ (C : Int) < 32 := by omega
          have z3 : (127 : Int) ≤ (C : Int) := by omega
          have z6 : ¬ (C : Int) < 160 := by omega
          have z4 : ((C : Int) == 65279) = false := by rw [beq_eq_false_iff_ne]; omega
          have z5 : ((C : Int) == 65533) = false := by rw [beq_eq_false_iff_ne]; omega
          go_wp2
          go_roundw
          case rel => exact ⟨pos + K, HI2.out, by omega, HB2, HP3⟩
          case measure =>
            have h1 := HI.out; have h2 := HI2.out
            rw [iterPos_of h2, iterPos_of h1]
            omega
      · clear HP2
        rcases hc with rfl | rfl | h1 | ⟨h1, h2, h3, h4, h5⟩ | ⟨h1, h2⟩
        ·
          go_wp2
          go_ret
          exact ⟨boolP_no _, HB2.out⟩
        ·
          go_wp2
          go_ret
          exact ⟨boolP_no _, HB2.out⟩
        · have z1 : (65535 : Int) < (C : Int) := by omega
          go_wp2
          go_ret
          exact ⟨boolP_no _, HB2.out⟩
        · have z1 : ¬ (65535 : Int) < (C : Int) := by omega
          have z2 : (C : Int) < 32 := by omega
          have z3 : ((C : Int) == 9) = false := by rw [beq_eq_false_iff_ne]; omega
          have z4 : ((C : Int) == 10) = false := by rw [beq_eq_false_iff_ne]; omega
          have z5 : ((C : Int) == 13) = false := by rw [beq_eq_false_iff_ne]; omega
          have z6 : ((C : Int) == 12) = false := by rw [beq_eq_false_iff_ne]; omega
          go_wp2
          go_ret
          exact ⟨boolP_no _, HB2.out⟩
        · have z1 : ¬ (65535 : Int) < (C : Int) := by omega
          have z2 : ¬ (C : Int) < 32 := by omega
          have z3 : (127 : Int) ≤ (C : Int) := by omega
          have z6 : (C : Int) < 160 := by omega
          go_wp2
          go_ret
          exact ⟨boolP_no _, HB2.out⟩
    · have hnx : ∀ ty, (Instr.next (.pointer (some ⟨w.heap.size, 0, none⟩)) true ty).run Tryz.prog wr = _ := fun ty => Lib.run_next_end_at wr w.heap.size s pos ty hit hp
      have he := rnsOf_end s pos hp
      have HP2 : Hid (∀ R ∈ rn s, smR R = true) := Lib.hid (fun R hR => by
        rcases HP.out R hR with h1 | h1
        · exact h1
        · rw [he] at h1; cases h1)
      clear he
      go_wp2
      go_ret
      exact ⟨boolP_yes HP2.out, HB.out⟩
set_option maxRecDepth 100000 in
theorem begins1_any (s : ByteArray) (c : UInt8) (w : World) (hs : s.size ≤ 2147483647) :
    Calls Tryz.prog 13 #[.string s, .string ⟨#[c]⟩] w fun e w' => SameW (BoolN (∀ y r, s.data.toList = y :: r → y ≠ c) e) w w' := by
  have h1s : (⟨#[c]⟩ : ByteArray).size = 1 := rfl
  by_cases h1 : 1 ≤ s.size
  · have h1z : (1 : Int) ≤ (s.size : Int) := by omega
    go_enter Tryz.func13, Tryz.ntmps13
    go_wp2
    go_ret
    refine ⟨⟨_, rfl, fun hb y r hy e => ?_⟩, rfl⟩
    subst e
    have : (s.extract 0 1).toList = ([y] : List UInt8) := by
      rw [ByteArray.toList_eq, ByteArray.data_extract, Array.toList_extract, hy]
      rfl
    rw [this] at hb
    simp at hb
  · have h1z : ¬ (1 : Int) ≤ (s.size : Int) := by omega
    go_enter Tryz.func13, Tryz.ntmps13
    go_wp2
    go_ret
    refine ⟨⟨false, rfl, fun _ y r hy e => ?_⟩, rfl⟩
    have := congrArg List.length hy
    rw [← Lib.size_eq] at this
    simp at this
    omega
theorem byte_atP (s : ByteArray) (i : Nat) (h : i < s.size) : s.data.toList[i]? = some (s[i]'h) := by
  rw [Array.getElem?_toList, Array.getElem?_eq_getElem (by exact h)]
  rfl
set_option maxHeartbeats 1000000 in
set_option maxRecDepth 100000 in
theorem plainP_any (s : ByteArray) (w : World) (hs : s.size ≤ 140737488355328) :
    Calls Tryz.prog 49 #[.string s] w fun e w' => SameW (BoolP (∀ x ∈ s.data.toList, x.toNat < 128) e) w w' := by
  go_enter Tryz.func49, Tryz.ntmps49
  go_wp2
  go_loopw [3] (fun iv wr => ∃ (i : Nat), iv = .int .i64 i ∧ i ≤ s.size ∧ (∀ j b, j < i → s.data.toList[j]? = some b → b.toNat < 128) ∧ wr = w) (fun iv _ => match iv with | .int _ i => s.size - i.toNat | _ => 0)
  case atStart => exact ⟨0, rfl, Nat.zero_le _, fun j b h => by omega, rfl⟩
  case round =>
    obtain ⟨i, rfl, his, hno, rfl⟩ := hrel
    have HN := Lib.hid hno
    clear hno
    by_cases hlt : i < s.size
    · have hz : (i : Int) < (s.size : Int) := by omega
      have hat := byte_atP s i hlt
      have HA := Lib.hid hat
      clear hat
      by_cases hc : 128 ≤ (s[i]'hlt).toNat
      · have hcz : (128 : Int) ≤ ((s[i]'hlt).toNat : Int) := by omega
        go_wp2
        go_ret
        exact ⟨boolP_no _, rfl⟩
      · have hcz : ¬ (128 : Int) ≤ ((s[i]'hlt).toNat : Int) := by omega
        go_wp2
        go_roundw
        case rel =>
          refine ⟨i + 1, by go_num, by omega, fun j b h1 h2 => ?_, trivial⟩
          by_cases hji : j < i
          · exact HN.out j b hji h2
          · obtain rfl : j = i := by omega
            rw [HA.out] at h2
            obtain rfl := Option.some.inj h2
            omega
        case measure => show s.size - ((i : Int) + 1).toNat < s.size - (i : Int).toNat; omega
    · have hz : ¬ (i : Int) < (s.size : Int) := by omega
      have hall : ∀ b ∈ s.data.toList, b.toNat < 128 := fun b hb => by
        obtain ⟨j, hj⟩ := List.getElem?_of_mem hb
        have := (List.getElem?_eq_some_iff.1 hj).1
        rw [← Lib.size_eq] at this
        exact HN.out j b (by omega) hj
      have HB := Lib.hid hall
      clear hall
      by_cases hl : 4096 < s.size
      · go_wp2_with (go_at_call 33; (with_reducible refine (long_yes s _ hl).mono ?_); rintro e w1 ⟨rfl, rfl⟩)
        go_ret
        exact ⟨⟨_, rfl, fun _ => HB.out⟩, rfl⟩
      · go_wp2_with (go_at_call 33; (with_reducible refine (long_no s _ hl).mono ?_); rintro e w1 ⟨rfl, rfl⟩)
        go_ret
        exact ⟨⟨_, rfl, fun _ => HB.out⟩, rfl⟩
end Go.Proofs.YtgmhigjhooihdaaGreatDoor
