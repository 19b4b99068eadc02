/- strconv.ParseInt(s, 16, 0) at one to four hexadecimal digits. -/
import Derived.Test.YtackciefmdiphaaGreatDoorLexErr
import Derived.Lib.ConvBytes
set_option linter.unusedVariables false
namespace Go.Proofs.YtackciefmdiphaaGreatDoor
open Go.RowKit Plain

def digV (b : UInt8) : Nat := (hexR b.toNat).getD 0
def hexF (l : List UInt8) : Nat := l.foldl (fun a b => 16 * a + digV b) 0
def IsHex (l : List UInt8) : Prop := ∀ b ∈ l, (48 ≤ b.toNat ∧ b.toNat ≤ 57) ∨ (97 ≤ b.toNat ∧ b.toNat ≤ 102) ∨ (65 ≤ b.toNat ∧ b.toNat ≤ 70)
theorem digV_le (b : UInt8) : digV b ≤ 15 := by
  unfold digV hexR
  (repeat' split) <;> simp <;> omega
theorem hexF_snoc (l : List UInt8) (b : UInt8) : hexF (l ++ [b]) = 16 * hexF l + digV b := by simp [hexF]
theorem hexF_lt : ∀ (n : Nat) (l : List UInt8), l.length ≤ n → hexF l < 16 ^ n := by
  intro n
  induction n with
  | zero =>
    intro l h
    have h0 : l = [] := List.eq_nil_of_length_eq_zero (by omega)
    subst h0
    decide
  | succ n ih =>
    intro l h
    rcases List.eq_nil_or_concat l with rfl | ⟨l', b, rfl⟩
    · exact Nat.pow_pos (by decide)
    · have h1 := ih l' (by simp at h; omega)
      rw [List.concat_eq_append, hexF_snoc, Nat.pow_succ]
      have := digV_le b
      omega
theorem or32 (c : Nat) (h : (97 ≤ c ∧ c ≤ 102) ∨ (65 ≤ c ∧ c ≤ 70)) : bits .or .u8 (c : Int) 32 = (if 97 ≤ c then (c : Int) else (c : Int) + 32) := by
  have key : ∀ x : Fin 128, ((97 ≤ x.val ∧ x.val ≤ 102) ∨ (65 ≤ x.val ∧ x.val ≤ 70)) → bits .or .u8 ((x.val : Nat) : Int) 32 = (if 97 ≤ x.val then ((x.val : Nat) : Int) else ((x.val : Nat) : Int) + 32) := by decide +kernel
  exact key ⟨c, by omega⟩ h
set_option maxHeartbeats 32000000 in
set_option maxRecDepth 100000 in
theorem pu16 (t : ByteArray) (hne : t.size ≠ 0) (hmax : t.size ≤ 4) (hx : IsHex t.data.toList) (w : World) (V : Int) (hV : (hexF t.data.toList : Int) = V) :
    Calls Tryz.prog 168 #[.string t, .int .i64 16, .int .i64 0] w fun e w' => e = .returned (.tuple #[.int .u64 V, .nilIface]) ∧ Below w.heap.size w w' := by
  have hemp : t.toList.isEmpty = false := by
    rw [← decide_eq_emptyBytes]
    exact decide_eq_false (fun h => hne (by rw [h]; rfl))
  have hcv := Lib.run_convert_string_bytes (P := Tryz.prog) w 9 70 5 t (u := .string) Tryz.underlying9 Tryz.underlying70 Tryz.underlying5
  have hB : ∀ j, j < t.size → (Lib.bytesWorld w 5 t).cell? ⟨w.heap.size, j, none⟩ = some (.int .u8 (t.data.toList.getD j 0).toNat) := fun j hj => Lib.bytesWorld_cell w 5 t j hj
  have hbw : Below w.heap.size w (Lib.bytesWorld w 5 t) := Lib.bytesWorld_below _ _ _
  obtain ⟨W1, hW1⟩ : ∃ W1, W1 = Lib.bytesWorld w 5 t := ⟨_, rfl⟩
  rw [← hW1] at hcv hB hbw
  have HBW := Lib.hid hbw
  clear hW1 hbw
  obtain ⟨bs, hL⟩ : ∃ bs, bs = t.data.toList := ⟨_, rfl⟩
  have hLn : bs.length = t.size := by rw [hL, Lib.size_eq]
  rw [← hL] at hB hx hV
  have HXX := Lib.hid hx
  have HV := Lib.hid hV
  have HLn := Lib.hid hLn
  clear hL hx hV hLn
  have hmv : IntKind.u64.wrap (IntKind.u64.wrap 18446744073709551616 - 1) = 18446744073709551615 := by
    rw [IntKind.wrap_u64, IntKind.wrap_u64]
    decide
  go_enter Tryz.func168, Tryz.ntmps168
  go_wp2
  go_loop [12, 13, 101] (fun vu vn vi => ∃ (k : Nat) (a : Int), vu = .bool false ∧ vn = .int .u64 a ∧ vi = .int .i64 k ∧ k ≤ t.size ∧ Hid (a = (hexF (bs.take k) : Int)))
    (fun _ _ vi => t.size - (intOf vi).toNat)
  case atStart => exact ⟨0, 0, rfl, rfl, rfl, by omega, rfl⟩
  case round =>
    obtain ⟨k, a, rfl, rfl, rfl, hk, hh⟩ := hrel
    by_cases hkn : k < t.size
    · have ha := hh.out
      have hc := hB k hkn
      have hlen := HLn.out
      have hget : bs.getD k 0 = bs[k]'(by omega) := by simp [List.getD, List.getElem?_eq_getElem (show k < bs.length by omega)]
      have hlt3 := hexF_lt 3 (bs.take k) (by rw [List.length_take]; omega)
      rw [hget] at hc
      have hsn : bs.take (k + 1) = bs.take k ++ [bs[k]'(by omega)] := List.take_succ_eq_append_getElem (by omega)
      have hcl := HXX.out (bs[k]'(by omega)) (List.getElem_mem _)
      obtain ⟨c, hcc⟩ : ∃ c, bs[k]'(by omega) = c := ⟨_, rfl⟩
      rw [hcc] at hc hsn hcl
      have a0 : 0 ≤ a := by omega
      have a1 : a ≤ 4095 := by
        have : (16 : Nat) ^ 3 = 4096 := by decide
        omega
      have HS : Hid (∀ d : Int, d = (digV c : Int) → (16 * a + d) = (hexF (bs.take (k + 1)) : Int)) := Lib.hid (fun d hd => by rw [hsn, hexF_snoc, ha, hd]; omega)
      have hkz : (k : Int) < (t.size : Int) := by omega
      have hdv : Hid (digV c = if 48 ≤ c.toNat ∧ c.toNat ≤ 57 then c.toNat - 48 else if 97 ≤ c.toNat then c.toNat - 87 else c.toNat - 55) := Lib.hid (by
        unfold digV hexR
        rcases hcl with h | h | h
        · rw [if_pos h, if_pos h]; rfl
        · rw [if_neg (by omega), if_pos h, if_neg (by omega), if_pos (by omega)]; rfl
        · rw [if_neg (by omega), if_neg (by omega), if_pos h, if_neg (by omega), if_neg (by omega)]; rfl)
      clear hget hsn hcc hlt3 hlen ha hh hB
      have hns : ((c.toNat : Int) == 95) = false := by rw [beq_eq_false_iff_ne]; omega
      by_cases hdig : 48 ≤ c.toNat ∧ c.toNat ≤ 57
      · obtain ⟨hd0, hd1⟩ := hdig
        have HN := Lib.hid (HS.out ((c.toNat : Int) - 48) (by rw [hdv.out, if_pos ⟨hd0, hd1⟩]; omega))
        have icut : a < 1152921504606846976 := by omega
        have iov : a * 16 + ((c.toNat : Int) - 48) < 18446744073709551616 := by omega
        clear hcl
        go_wp2
        refine ⟨⟨k + 1, a * 16 + ((c.toNat : Int) - 48), rfl, (by first | rfl | (congr 1; omega)), (by first | rfl | (congr 1; omega)), by omega, Lib.hid (by rw [← HN.out]; omega)⟩, by simp [intOf]; omega⟩
      · obtain ⟨z, hz⟩ : ∃ z, bits .or .u8 (c.toNat : Int) 32 = z := ⟨_, rfl⟩
        have hzz := or32 c.toNat (by omega)
        rw [hz] at hzz
        have hz1 : 97 ≤ z ∧ z ≤ 102 := by rw [hzz]; split <;> omega
        obtain ⟨hz0, hz2⟩ := hz1
        have HN := Lib.hid (HS.out (z - 97 + 10) (by
          rw [hdv.out, if_neg hdig, hzz]
          split <;> omega))
        have HLo := Lib.hid (fun w => Tryz.internal_strconv_lower (c.toNat : Int) w)
        rw [hz] at HLo
        have icut : a < 1152921504606846976 := by omega
        have iov : a * 16 + (z - 97 + 10) < 18446744073709551616 := by omega
        have hnd : (c.toNat : Int) < 48 ∨ (57 : Int) < (c.toNat : Int) := by omega
        have hnd1 : (57 : Int) < (c.toNat : Int) := by omega
        clear hcl hz hzz hdig hnd
        go_wp2_with (go_at_call 173; (with_reducible refine (HLo.out _).mono ?_); rintro e w' ⟨rfl, rfl⟩; dsimp only)
        refine ⟨⟨k + 1, a * 16 + (z - 97 + 10), rfl, (by first | rfl | (congr 1; omega)), (by first | rfl | (congr 1; omega)), by omega, Lib.hid (by rw [← HN.out]; omega)⟩, by simp [intOf]; omega⟩
    · have hkz : ¬ (k : Int) < (t.size : Int) := by omega
      have hk2 : k = t.size := by omega
      have ha := hh.out
      rw [List.take_of_length_le (by rw [HLn.out]; omega), HV.out] at ha
      subst ha
      clear hh hB
      go_wp2
      go_ret2
      exact ⟨rfl, HBW.out⟩
set_option maxHeartbeats 4000000 in
set_option maxRecDepth 100000 in
theorem pi16i (t : ByteArray) (hne : t.size ≠ 0) (hmax : t.size ≤ 4) (hx : IsHex t.data.toList) (w : World) (V : Int) (hV : (hexF t.data.toList : Int) = V) :
    Calls Tryz.prog 166 #[.string t, .int .i64 16, .int .i64 0] w fun e w' => e = .returned (.tuple #[.int .i64 V, .nilIface]) ∧ Below w.heap.size w w' := by
  have hemp : t.toList.isEmpty = false := by
    rw [← decide_eq_emptyBytes]
    exact decide_eq_false (fun h => hne (by rw [h]; rfl))
  have HP := Lib.hid (pu16 t hne hmax hx w V hV)
  have hp : 0 < t.size := by omega
  have hpz : (0 : Int) < (t.size : Int) := by omega
  have h0 := hx (t[0]'hp) (by show t.data[0] ∈ _; simp)
  have q1 : (((t[0]'hp).toNat : Int) == 43) = false := by rw [beq_eq_false_iff_ne]; omega
  have q2 : (((t[0]'hp).toNat : Int) == 45) = false := by rw [beq_eq_false_iff_ne]; omega
  have hlt := hexF_lt 4 t.data.toList (by rw [← Lib.size_eq]; exact hmax)
  have hV1 : V < 9223372036854775808 := by
    have : (16 : Nat) ^ 4 = 65536 := by decide
    omega
  have hV0 : 0 ≤ V := by omega
  clear hx h0 hV hlt hne
  go_enter Tryz.func166, Tryz.ntmps166
  go_wp2_with (go_at_call 168; (with_reducible refine HP.out.mono ?_); rintro e w1 ⟨rfl, hb1⟩; dsimp only)
  go_wp2
  go_ret2
  exact ⟨rfl, hb1⟩
set_option maxHeartbeats 4000000 in
set_option maxRecDepth 100000 in
theorem pi16 (t : ByteArray) (hne : t.size ≠ 0) (hmax : t.size ≤ 4) (hx : IsHex t.data.toList) (w : World) (V : Int) (hV : (hexF t.data.toList : Int) = V) :
    Calls Tryz.prog 163 #[.string t, .int .i64 16, .int .i64 0] w fun e w' => e = .returned (.tuple #[.int .i64 V, .nilIface]) ∧ Below w.heap.size w w' := by
  have HP := Lib.hid (pi16i t hne hmax hx w V hV)
  clear hx hV
  go_enter Tryz.func163, Tryz.ntmps163
  go_wp2_with (go_at_call 166; (with_reducible refine HP.out.mono ?_); rintro e w1 ⟨rfl, hb1⟩; dsimp only)
  go_wp2
  go_ret2
  exact ⟨rfl, hb1⟩
end Go.Proofs.YtackciefmdiphaaGreatDoor
