/- The walk of xstrings.SwapCase on ASCII. -/
import Derived.Test.YtdomnccokhhieaaDoorPlainW
import Derived.Test.YtdomnccokhhieaaDoorBuildRune
import Derived.Lib.SmallJoins
import Derived.Lib.Props
import Derived.Lib.Latin
namespace Go.Proofs.YtdomnccokhhieaaDoor
open Go.RowKit Plain

/-- the table of package unicode's -/
def PTab (w : World) : Prop := Lib.TabIs Tryd.prog w "unicode.properties" .u8 Lib.propertiesTab
theorem PTab.below {w w' : World} (h : PTab w) (hb : Below w.heap.size w w') : PTab w' := Joins.tab_stays (g := 2) (by kernel_rfl) h hb (Nat.le_refl _)

def swU (b : UInt8) : UInt8 := if 65 ≤ b.toNat ∧ b.toNat ≤ 90 then (b.toNat + 32).toUInt8 else if 97 ≤ b.toNat ∧ b.toNat ≤ 122 then (b.toNat - 32).toUInt8 else b
theorem enc_byte (r : Int) (h0 : 0 ≤ r) (h1 : r ≤ 127) : Lib.encodeRune r = [r.toNat.toUInt8] := by
  unfold Lib.encodeRune
  rw [Lib.encodeRuneZ_one h0 h1]
  rfl
theorem write_one (b : Nat) (l : List UInt8) (r : Int) (y : UInt8) (w : World) (hr0 : -2147483648 ≤ r) (hr1 : r ≤ 2147483647) (h : IsB b l w) (hlen : l.length + 4 ≤ 140737488355328) (hy : Lib.encodeRune r = [y]) :
    Calls Tryd.prog 49 #[.pointer (some ⟨b, 0, none⟩), .int .i32 r] w fun e w' => e = .returned (.tuple #[.int .i64 (Lib.runeCells r).length, .nilIface]) ∧ IsB b (l ++ [y]) w' ∧ Below b w w' := by
  refine (writeRune_any b l r w hr0 hr1 h hlen).mono ?_
  rintro e w' ⟨rfl, hk, hb, -⟩
  rw [hy] at hk
  exact ⟨rfl, hk, hb⟩
theorem tail_of (t : ByteArray) (x : UInt8) (xs : List UInt8) (h : t.data.toList = x :: xs) : (t.extract 1 t.size).data.toList = xs ∧ (t.extract 1 t.size).size = t.size - 1 := by
  have := rest_of t 1
  rw [h] at this
  exact this

set_option maxHeartbeats 4000000 in
set_option maxRecDepth 100000 in
theorem swap_any (s : ByteArray) (w : World) (hs : s.size ≤ 2147483647) (hasc : ∀ b ∈ s.data.toList, b.toNat < 128) (hP : PTab w) :
    Calls Tryd.prog 42 #[.string s] w fun e w' => e = .returned (.string ⟨(s.data.toList.map swU).toArray⟩) ∧ Below w.heap.size w w' := by
  have HAsc := Lib.hid hasc
  clear hasc
  obtain ⟨Z, hZ⟩ : ∃ Z, s.data.toList.map swU = Z := ⟨_, rfl⟩
  rw [hZ]
  have HZ := Lib.hid hZ
  clear hZ
  go_enter Tryd.func42, Tryd.ntmps42
  go_wp2
  go_loopw [0] (fun str wr => ∃ (t : ByteArray) (D : List UInt8), str = .string t ∧ s.data.toList = D ++ t.data.toList ∧ IsB w.heap.size (D.map swU) wr ∧ Below w.heap.size w wr) (fun str _ => match str with | .string t => t.size | _ => 0)
  case atStart => exact ⟨s, [], rfl, rfl, fresh_isB w, (Below.refl _ w).alloc (Nat.le_refl _) _⟩
  case round =>
    obtain ⟨t, D, rfl, hD, hB, hbw⟩ := hrel
    have hPr := hP.below hbw
    have hsz : D.length + t.size = s.size := by
      have := congrArg List.length hD
      rw [List.length_append, ← Lib.size_eq, ← Lib.size_eq] at this
      exact this.symm
    have HD := Lib.hid hD
    clear hD
    by_cases ht0 : 0 < t.size
    · have htz : (0 : Int) < (t.size : Int) := by omega
      obtain ⟨x, xs, hx⟩ : ∃ x xs, t.data.toList = x :: xs := by
        cases h : t.data.toList with
        | nil => exact absurd h (ne_of_pos ht0)
        | cons x xs => exact ⟨x, xs, rfl⟩
      have hx0 : t.data.toList[0]? = some x := by rw [hx]; rfl
      have hx1 : x.toNat < 128 := HAsc.out x (by rw [HD.out, hx]; simp)
      have HRS := Lib.hid (tail_of t x xs hx)
      have HX := Lib.hid hx
      have HX0 := Lib.hid hx0
      have hl : (D.map swU).length + 4 ≤ 140737488355328 := by rw [List.length_map]; omega
      clear hx hx0
      obtain ⟨c, hc⟩ : ∃ c : Nat, x.toNat = c := ⟨_, rfl⟩
      have HU := Lib.hid (fun (w : World) (h : PTab w) => Tryd.unicode_IsUpper c w (by omega) h)
      have HL := Lib.hid (fun (w : World) (h : PTab w) => Tryd.unicode_IsLower c w (by omega) h)
      have HDc := Lib.hid (fun (w : World) => Tryd.utf8_DecodeRuneInString_ascii t x w HX0.out hx1)
      rw [hc] at hx1 HDc
      by_cases hup : 65 ≤ c ∧ c ≤ 90
      · have hU : Lib.isUpperL (c : Int) = true := by unfold Lib.isUpperL; rw [decide_eq_true_eq]; omega
        have HTo := Lib.hid (fun (w : World) => Tryd.unicode_ToLower (c : Int) w (by omega))
        have hto : Lib.toLowerR (c : Int) = (c : Int) + 32 := by unfold Lib.toLowerR; rw [if_pos (by omega)]
        rw [hto] at HTo
        rw [hU] at HU
        clear hU hto
        have hsw : Lib.encodeRune ((c : Int) + 32) = [swU x] := by
          rw [enc_byte _ (by omega) (by omega)]
          unfold swU
          rw [if_pos (by omega), hc, show ((c : Int) + 32).toNat = c + 32 by omega]
        have HWr := Lib.hid (fun (w' : World) (h : IsB w.heap.size (D.map swU) w') => write_one w.heap.size (D.map swU) ((c : Int) + 32) (swU x) w' (by omega) (by omega) h hl hsw)
        clear hsw
        clear hc
        go_wp2_with (go_at_call 51; (with_reducible refine (HDc.out _).mono ?_); rintro e w1 ⟨rfl, rfl⟩; dsimp only)
        go_wp2_with (go_at_call 56; (with_reducible refine (HU.out _ hPr).mono ?_); rintro e w1 ⟨rfl, rfl⟩; dsimp only)
        go_wp2_with (go_at_call 57; (with_reducible refine (HTo.out _).mono ?_); rintro e w1 ⟨rfl, rfl⟩; dsimp only)
        go_wp2_with (go_at_call 49; (with_reducible refine (HWr.out _ hB).mono ?_); rintro e w1 ⟨rfl, hB1, hb1⟩; dsimp only)
        go_roundw
        case rel =>
          refine ⟨_, D ++ [x], rfl, ?_, ?_, hbw.trans hb1⟩
          · rw [HRS.out.1, HD.out, HX.out]; simp
          · rw [List.map_append]; exact hB1
        case measure =>
          have hrs := HRS.out.2
          simp only [hrs]
          omega
      · have hU : Lib.isUpperL (c : Int) = false := by unfold Lib.isUpperL; rw [decide_eq_false_iff_not]; omega
        rw [hU] at HU
        clear hU
        by_cases hlo : 97 ≤ c ∧ c ≤ 122
        · have hL : Lib.isLowerL (c : Int) = true := by unfold Lib.isLowerL; rw [decide_eq_true_eq]; omega
          have HTo := Lib.hid (fun (w : World) => Tryd.unicode_ToUpper (c : Int) w (by omega))
          have hto : Lib.toUpperR (c : Int) = (c : Int) - 32 := by unfold Lib.toUpperR; rw [if_pos (by omega)]
          rw [hto] at HTo
          rw [hL] at HL
          clear hL hto
          have hsw : Lib.encodeRune ((c : Int) - 32) = [swU x] := by
            rw [enc_byte _ (by omega) (by omega)]
            unfold swU
            rw [if_neg (by omega), if_pos (by omega), hc, show ((c : Int) - 32).toNat = c - 32 by omega]
          have HWr := Lib.hid (fun (w' : World) (h : IsB w.heap.size (D.map swU) w') => write_one w.heap.size (D.map swU) ((c : Int) - 32) (swU x) w' (by omega) (by omega) h hl hsw)
          clear hsw
          clear hc
          go_wp2_with (go_at_call 51; (with_reducible refine (HDc.out _).mono ?_); rintro e w1 ⟨rfl, rfl⟩; dsimp only)
          go_wp2_with (go_at_call 56; (with_reducible refine (HU.out _ hPr).mono ?_); rintro e w1 ⟨rfl, rfl⟩; dsimp only)
          go_wp2_with (go_at_call 58; (with_reducible refine (HL.out _ hPr).mono ?_); rintro e w1 ⟨rfl, rfl⟩; dsimp only)
          go_wp2_with (go_at_call 59; (with_reducible refine (HTo.out _).mono ?_); rintro e w1 ⟨rfl, rfl⟩; dsimp only)
          go_wp2_with (go_at_call 49; (with_reducible refine (HWr.out _ hB).mono ?_); rintro e w1 ⟨rfl, hB1, hb1⟩; dsimp only)
          go_roundw
          case rel =>
            refine ⟨_, D ++ [x], rfl, ?_, ?_, hbw.trans hb1⟩
            · rw [HRS.out.1, HD.out, HX.out]; simp
            · rw [List.map_append]; exact hB1
          case measure =>
            have hrs := HRS.out.2
            simp only [hrs]
            omega
        · have hL : Lib.isLowerL (c : Int) = false := by unfold Lib.isLowerL; rw [decide_eq_false_iff_not]; omega
          rw [hL] at HL
          clear hL
          have hsw : Lib.encodeRune ((c : Int)) = [swU x] := by
            rw [enc_byte _ (by omega) (by omega)]
            unfold swU
            rw [if_neg (by omega), if_neg (by omega), ← hc]; simp
          have HWr := Lib.hid (fun (w' : World) (h : IsB w.heap.size (D.map swU) w') => write_one w.heap.size (D.map swU) ((c : Int)) (swU x) w' (by omega) (by omega) h hl hsw)
          clear hsw
          clear hc
          go_wp2_with (go_at_call 51; (with_reducible refine (HDc.out _).mono ?_); rintro e w1 ⟨rfl, rfl⟩; dsimp only)
          go_wp2_with (go_at_call 56; (with_reducible refine (HU.out _ hPr).mono ?_); rintro e w1 ⟨rfl, rfl⟩; dsimp only)
          go_wp2_with (go_at_call 58; (with_reducible refine (HL.out _ hPr).mono ?_); rintro e w1 ⟨rfl, rfl⟩; dsimp only)
          go_wp2_with (go_at_call 49; (with_reducible refine (HWr.out _ hB).mono ?_); rintro e w1 ⟨rfl, hB1, hb1⟩; dsimp only)
          go_roundw
          case rel =>
            refine ⟨_, D ++ [x], rfl, ?_, ?_, hbw.trans hb1⟩
            · rw [HRS.out.1, HD.out, HX.out]; simp
            · rw [List.map_append]; exact hB1
          case measure =>
            have hrs := HRS.out.2
            simp only [hrs]
            omega
    · have htz : ¬ (0 : Int) < (t.size : Int) := by omega
      have hfin : D.map swU = Z := by
        have h0 : t.data.toList = [] := List.eq_nil_of_length_eq_zero (by rw [← Lib.size_eq]; omega)
        rw [← HZ.out, HD.out, h0, List.append_nil]
      go_wp2_with (go_at_call 50; (with_reducible refine (string_any _ _ _ hB).mono ?_); rintro e w3 ⟨rfl, -, hb3, -⟩; dsimp only)
      go_wp2
      go_ret
      exact ⟨ret_str (by rw [← hfin]), hbw.trans hb3⟩
end Go.Proofs.YtdomnccokhhieaaDoor
