/- The walk of xstrings.ExpandTabs. -/
import Derived.Test.YtdomnccokhhieaaDoorTabsLaw
import Derived.Test.YtdomnccokhhieaaDoorAlloc
import Derived.Test.YtdomnccokhhieaaDoorBuildRune
namespace Go.Proofs.YtdomnccokhhieaaDoor
open Go.RowKit Plain

theorem flat_blank : ∀ (i : Nat), (List.replicate i [(32 : UInt8)]).flatten = List.replicate i 32
  | 0 => rfl
  | i + 1 => by rw [List.replicate_succ, List.flatten_cons, flat_blank i]; rfl
theorem blank_any (b : Nat) (l : List UInt8) (w : World) (h : IsB b l w) (hlen : l.length + 4 ≤ 140737488355328) :
    Calls Tryd.prog 49 #[.pointer (some ⟨b, 0, none⟩), .int .i32 32] w fun e w' => e = .returned (.tuple #[.int .i64 (Lib.runeCells 32).length, .nilIface]) ∧ IsB b (l ++ [32]) w' ∧ Below b w w' := by
  refine (writeRune_any b l 32 w (by decide) (by decide) h hlen).mono ?_
  rintro e w' ⟨rfl, hk, hb, -⟩
  exact ⟨rfl, hk, hb⟩
/-- where the walk stands -/
structure TabAt (size : Nat) (s t : ByteArray) (col : Nat) (out : List UInt8) (nil : Bool) : Prop where
  all : expB size (segs s.data.toList) 0 = out ++ expB size (segs t.data.toList) col
  text : s.data.toList = s.data.toList.take (s.size - t.size) ++ t.data.toList
  same : nil = true → out = s.data.toList.take (s.size - t.size)
  le : t.size ≤ s.size
  colB : col ≤ 128 * (s.size - t.size)
  outB : out.length ≤ 128 * (s.size - t.size)
theorem TabAt.start (size : Nat) (s : ByteArray) : TabAt size s s 0 [] true where
  all := rfl
  text := by simp
  same := fun _ => by simp
  le := Nat.le_refl _
  colB := Nat.zero_le _
  outB := by simp
section
variable {size col R K : Nat} {s t : ByteArray} {out : List UInt8} {nil : Bool}
theorem TabAt.step (h : TabAt size s t col out nil) (hh : Head t R K) (o : List UInt8) (col' : Nat) (nil' : Bool)
    (ha : expB size (segs t.data.toList) col = o ++ expB size (segs (t.extract K t.size).data.toList) col') (hn : nil' = true → nil = true ∧ o = t.data.toList.take K) (hc : col' ≤ col + 128 * K) (ho : o.length ≤ 128 * K) :
    TabAt size s (t.extract K t.size) col' (out ++ o) nil' := by
  have hr := rest_of t K
  have hle := hh.le
  have hts := h.le
  have htl := Lib.size_eq t
  have hsl := Lib.size_eq s
  have e : s.size - (t.size - K) = (s.size - t.size) + K := by omega
  have htx := h.text
  have ht2 : s.data.toList.take (s.size - (t.size - K)) = s.data.toList.take (s.size - t.size) ++ t.data.toList.take K := by
    rw [e, List.take_add]
    congr 2
    have h1 : s.data.toList.drop (s.size - t.size) = t.data.toList := by
      conv => lhs; rw [htx]
      rw [List.drop_append, List.drop_eq_nil_of_le (by rw [List.length_take]; omega), List.nil_append, List.length_take, Nat.min_eq_left (by omega), Nat.sub_self, List.drop_zero]
    rw [h1]
  refine ⟨by rw [h.all, ha, List.append_assoc], ?_, ?_, by rw [hr.2]; omega, ?_, ?_⟩
  · rw [hr.2, ht2, hr.1, List.append_assoc, List.take_append_drop]; exact htx
  · intro hn'
    obtain ⟨n1, n2⟩ := hn hn'
    rw [hr.2, ht2, h.same n1, n2]
  · rw [hr.2, e]; have := h.colB; omega
  · rw [hr.2, e, List.length_append]; have := h.outB; omega
end

set_option maxHeartbeats 8000000 in
set_option maxRecDepth 100000 in
theorem expand_any (s : ByteArray) (size : Nat) (w : World) (hs : s.size ≤ 2147483647) (h1 : 1 ≤ size) (h2 : size ≤ 128) (hT : Tabs w) :
    Calls Tryd.prog 41 #[.string s, .int .i64 (size : Int)] w fun e w' => e = .returned (.string ⟨(expB size (segs s.data.toList) 0).toArray⟩) ∧ Below w.heap.size w w' := by
  obtain ⟨Z, hZ⟩ : ∃ Z, expB size (segs s.data.toList) 0 = Z := ⟨_, rfl⟩
  rw [hZ]
  have HZ := Lib.hid hZ
  clear hZ
  have h1z : ¬ (size : Int) ≤ 0 := by omega
  go_enter Tryd.func41, Tryd.ntmps41
  go_wp2
  go_loopw [0, 8, 10] (fun str cv bv wr => ∃ (t : ByteArray) (col : Nat) (out : List UInt8) (nil : Bool), str = .string t ∧ cv = .int .i64 col ∧ TabAt size s t col out nil ∧ ((nil = true ∧ bv = .pointer none) ∨ (nil = false ∧ ∃ b, bv = .pointer (some ⟨b, 0, none⟩) ∧ w.heap.size ≤ b ∧ IsB b out wr)) ∧ Below w.heap.size w wr) (fun str _ _ _ => match str with | .string t => t.size | _ => 0)
  case atStart => exact ⟨s, 0, [], true, rfl, rfl, TabAt.start size s, .inl ⟨rfl, rfl⟩, Below.refl _ _⟩
  case round =>
    obtain ⟨t, col, out, nil, rfl, rfl, ha, hbuf, hbw⟩ := hrel
    have hTr := hT.below hbw
    have hle := ha.le
    have hcb := ha.colB
    have hob := ha.outB
    have HA := Lib.hid ha
    clear ha
    by_cases ht0 : 0 < t.size
    · have htz : (0 : Int) < (t.size : Int) := by omega
      obtain ⟨R, K, hh⟩ := head_of t ht0
      have HH := Lib.hid hh
      have hK1 := hh.pos
      have hK2 := hh.le
      have HRS := Lib.hid (rest_of t K)
      have HSG := Lib.hid (show segs t.data.toList = t.data.toList.take K :: segs (t.extract K t.size).data.toList ∧ runeOf (t.data.toList.take K) = R from ⟨segs_rest t R K hh, hh.run.symm⟩)
      have hR1 := hh.rune
      clear hh
      by_cases hR9 : R = 9
      · have q9 : (((R : Int)) == 9) = true := by rw [beq_iff_eq]; omega
        have K9 := Lib.hid hR9
        clear hR9
        obtain ⟨r, hr⟩ : ∃ r, col % size = r := ⟨_, rfl⟩
        have hrs1 : r < size := by rw [← hr]; exact Nat.mod_lt _ (by omega)
        have hrem : Int.tmod (col : Int) (size : Int) = (r : Int) := by rw [← hr]; rfl
        obtain ⟨E, hE⟩ : ∃ E, size - r = E := ⟨_, rfl⟩
        have hsub : (size : Int) - (r : Int) = (E : Int) := by omega
        have hE1 : 1 ≤ E := by omega
        have hE2 : E ≤ 128 := by omega
        have HE := Lib.hid (show size - col % size = E by rw [hr]; exact hE)
        clear hr hE
        rcases hbuf with ⟨rfl, rfl⟩ | ⟨rfl, b, rfl, hwb, hB⟩
        · have hsame := HA.out.same rfl
          go_wp2_with (go_at_call 51; (with_reducible refine (decode_any t _ hTr _ K HH).mono ?_); rintro e w1 ⟨rfl, hb1⟩; dsimp only)
          have hbw1 : Below w.heap.size w w1 := hbw.trans (hb1.mono hbw.size)
          go_wp2_with (go_at_call 54; (with_reducible refine (allocBuffer_any s t _ hle hs).mono ?_); rintro e w2 ⟨rfl, hB2, hb2⟩; dsimp only)
          rw [← hsame] at hB2
          have hbw2 : Below w.heap.size w w2 := hbw1.trans (hb2.mono hbw1.size)
          have hwb := hbw1.size
          go_loopw [6] (fun iv wr2 => ∃ (i : Nat), iv = .int .i64 i ∧ i ≤ E ∧ IsB w1.heap.size (out ++ List.replicate i 32) wr2 ∧ Below w.heap.size w wr2) (fun iv _ => match iv with | .int _ i => E - i.toNat | _ => 0)
          case atStart => exact ⟨0, rfl, Nat.zero_le _, by simpa using hB2, hbw2⟩
          case round =>
            obtain ⟨i, rfl, hiE, hBi, hbwi⟩ := hrel
            by_cases hlt : i < E
            · have hz : (i : Int) < (E : Int) := by omega
              have hl : (out ++ List.replicate i (32 : UInt8)).length + 4 ≤ 140737488355328 := by rw [List.length_append, List.length_replicate]; omega
              go_wp2_with (go_at_call 49; (with_reducible refine (blank_any _ _ _ hBi hl).mono ?_); rintro e w5 ⟨rfl, hB5, hb5⟩; dsimp only)
              go_wp2
              go_roundw
              case rel =>
                refine ⟨i + 1, by go_num, by omega, ?_, hbwi.trans (hb5.mono hwb)⟩
                rw [List.replicate_succ', ← List.append_assoc]
                exact hB5
              case measure => show E - ((i : Int) + 1).toNat < E - (i : Int).toNat; omega
            · have hz : ¬ (i : Int) < (E : Int) := by omega
              obtain rfl : i = E := by omega
              go_wp2
              go_roundw
              case rel =>
                refine ⟨_, col + i, out ++ List.replicate i 32, false, rfl, by go_num, (HA.out.step HH.out (List.replicate i 32) (col + i) false ?_ (fun h => by cases h) (by omega) (by rw [List.length_replicate]; omega)), .inr ⟨rfl, w1.heap.size, rfl, hwb, hBi⟩, hbwi⟩
                unfold expB
                rw [HSG.out.1, expP_tab _ _ _ _ (by rw [HSG.out.2]; exact K9.out), HE.out, List.flatten_append]
                congr 1
                exact flat_blank i
              case measure =>
                have hrs := HRS.out.2
                simp only [hrs]
                omega
        · skip
          go_wp2_with (go_at_call 51; (with_reducible refine (decode_any t _ hTr _ K HH).mono ?_); rintro e w1 ⟨rfl, hb1⟩; dsimp only)
          have hbw1 : Below w.heap.size w w1 := hbw.trans (hb1.mono hbw.size)
          have hB2 := hB.below hb1
          go_loopw [6] (fun iv wr2 => ∃ (i : Nat), iv = .int .i64 i ∧ i ≤ E ∧ IsB b (out ++ List.replicate i 32) wr2 ∧ Below w.heap.size w wr2) (fun iv _ => match iv with | .int _ i => E - i.toNat | _ => 0)
          case atStart => exact ⟨0, rfl, Nat.zero_le _, by simpa using hB2, hbw1⟩
          case round =>
            obtain ⟨i, rfl, hiE, hBi, hbwi⟩ := hrel
            by_cases hlt : i < E
            · have hz : (i : Int) < (E : Int) := by omega
              have hl : (out ++ List.replicate i (32 : UInt8)).length + 4 ≤ 140737488355328 := by rw [List.length_append, List.length_replicate]; omega
              go_wp2_with (go_at_call 49; (with_reducible refine (blank_any _ _ _ hBi hl).mono ?_); rintro e w5 ⟨rfl, hB5, hb5⟩; dsimp only)
              go_wp2
              go_roundw
              case rel =>
                refine ⟨i + 1, by go_num, by omega, ?_, hbwi.trans (hb5.mono hwb)⟩
                rw [List.replicate_succ', ← List.append_assoc]
                exact hB5
              case measure => show E - ((i : Int) + 1).toNat < E - (i : Int).toNat; omega
            · have hz : ¬ (i : Int) < (E : Int) := by omega
              obtain rfl : i = E := by omega
              go_wp2
              go_roundw
              case rel =>
                refine ⟨_, col + i, out ++ List.replicate i 32, false, rfl, by go_num, (HA.out.step HH.out (List.replicate i 32) (col + i) false ?_ (fun h => by cases h) (by omega) (by rw [List.length_replicate]; omega)), .inr ⟨rfl, b, rfl, hwb, hBi⟩, hbwi⟩
                unfold expB
                rw [HSG.out.1, expP_tab _ _ _ _ (by rw [HSG.out.2]; exact K9.out), HE.out, List.flatten_append]
                congr 1
                exact flat_blank i
              case measure =>
                have hrs := HRS.out.2
                simp only [hrs]
                omega
      · have q9 : (((R : Int)) == 9) = false := by rw [beq_eq_false_iff_ne]; omega
        have K9 := Lib.hid hR9
        clear hR9
        by_cases hR10 : R = 10
        · have q10 : (((R : Int)) == 10) = true := by rw [beq_iff_eq]; omega
          have K10 := Lib.hid hR10
          clear hR10
          rcases hbuf with ⟨rfl, rfl⟩ | ⟨rfl, b, rfl, hwb, hB⟩
          · skip
            go_wp2_with (go_at_call 51; (with_reducible refine (decode_any t _ hTr _ K HH).mono ?_); rintro e w1 ⟨rfl, hb1⟩; dsimp only)
            have hbw1 : Below w.heap.size w w1 := hbw.trans (hb1.mono hbw.size)
            go_wp2
            go_roundw
            case rel =>
              refine ⟨_, 0, out ++ t.data.toList.take K, true, rfl, rfl, (HA.out.step HH.out (t.data.toList.take K) 0 true ?_ (fun _ => ⟨rfl, rfl⟩) (by omega) (by rw [List.length_take]; omega)), .inl ⟨rfl, rfl⟩, hbw1⟩
              unfold expB
              rw [HSG.out.1, expP_nl _ _ _ _ (by rw [HSG.out.2]; exact K10.out), List.flatten_cons]
            case measure =>
              have hrs := HRS.out.2
              simp only [hrs]
              omega
          · skip
            go_wp2_with (go_at_call 51; (with_reducible refine (decode_any t _ hTr _ K HH).mono ?_); rintro e w1 ⟨rfl, hb1⟩; dsimp only)
            have hbw1 : Below w.heap.size w w1 := hbw.trans (hb1.mono hbw.size)
            have hBf := hB.below hb1
            have hxs : (t.extract 0 K).size = K := by simp; omega
            have hl : out.length + (t.extract 0 K).size ≤ 140737488355328 := by rw [hxs]; omega
            clear hxs
            go_wp2_with (go_at_call 48; (with_reducible refine (writeString_any _ _ _ _ hBf hl).mono ?_); rintro e w2 ⟨rfl, hB2, hb2, -⟩; dsimp only)
            go_wp2
            go_roundw
            case rel =>
              refine ⟨_, 0, out ++ t.data.toList.take K, false, rfl, rfl, (HA.out.step HH.out (t.data.toList.take K) 0 false ?_ (fun h => by cases h) (by omega) (by rw [List.length_take]; omega)), .inr ⟨rfl, b, rfl, hwb, by rw [Lib.extract_data] at hB2; simpa using hB2⟩, hbw1.trans (hb2.mono hwb)⟩
              unfold expB
              rw [HSG.out.1, expP_nl _ _ _ _ (by rw [HSG.out.2]; exact K10.out), List.flatten_cons]
            case measure =>
              have hrs := HRS.out.2
              simp only [hrs]
              omega
        · have q10 : (((R : Int)) == 10) = false := by rw [beq_eq_false_iff_ne]; omega
          have K10 := Lib.hid hR10
          clear hR10
          have hw2 := rwid_le R
          obtain ⟨DN, hDN⟩ : ∃ DN : Nat, rwid R = (DN : Int) := ⟨(rwid R).toNat, by omega⟩
          have cW : ∀ w, Calls Tryd.prog 55 #[.int .i32 R] w fun e w' => e = .returned (.int .i64 DN) ∧ w' = w := fun w => (runeWidth_any R w).mono fun e w' ⟨he, hw⟩ => ⟨by rw [he, hDN], hw.symm⟩
          have HW := Lib.hid cW
          have HDN := Lib.hid (show (rwid R).toNat = DN by omega)
          have hDb : DN ≤ 2 := by omega
          clear cW hw2 hDN
          rcases hbuf with ⟨rfl, rfl⟩ | ⟨rfl, b, rfl, hwb, hB⟩
          · skip
            go_wp2_with (go_at_call 51; (with_reducible refine (decode_any t _ hTr _ K HH).mono ?_); rintro e w1 ⟨rfl, hb1⟩; dsimp only)
            have hbw1 : Below w.heap.size w w1 := hbw.trans (hb1.mono hbw.size)
            go_wp2_with (go_at_call 55; (with_reducible refine (HW.out _).mono ?_); rintro e w9 ⟨rfl, rfl⟩; dsimp only)
            go_wp2
            go_roundw
            case rel =>
              refine ⟨_, (col + DN), out ++ t.data.toList.take K, true, rfl, by go_num, (HA.out.step HH.out (t.data.toList.take K) (col + DN) true ?_ (fun _ => ⟨rfl, rfl⟩) (by omega) (by rw [List.length_take]; omega)), .inl ⟨rfl, rfl⟩, hbw1⟩
              unfold expB
              rw [HSG.out.1, expP_else _ _ _ _ (by rw [HSG.out.2]; exact K9.out) (by rw [HSG.out.2]; exact K10.out), List.flatten_cons]
              rw [HSG.out.2, HDN.out]
            case measure =>
              have hrs := HRS.out.2
              simp only [hrs]
              omega
          · skip
            go_wp2_with (go_at_call 51; (with_reducible refine (decode_any t _ hTr _ K HH).mono ?_); rintro e w1 ⟨rfl, hb1⟩; dsimp only)
            have hbw1 : Below w.heap.size w w1 := hbw.trans (hb1.mono hbw.size)
            go_wp2_with (go_at_call 55; (with_reducible refine (HW.out _).mono ?_); rintro e w9 ⟨rfl, rfl⟩; dsimp only)
            have hBf := hB.below hb1
            have hxs : (t.extract 0 K).size = K := by simp; omega
            have hl : out.length + (t.extract 0 K).size ≤ 140737488355328 := by rw [hxs]; omega
            clear hxs
            go_wp2_with (go_at_call 48; (with_reducible refine (writeString_any _ _ _ _ hBf hl).mono ?_); rintro e w2 ⟨rfl, hB2, hb2, -⟩; dsimp only)
            go_wp2
            go_roundw
            case rel =>
              refine ⟨_, (col + DN), out ++ t.data.toList.take K, false, rfl, by go_num, (HA.out.step HH.out (t.data.toList.take K) (col + DN) false ?_ (fun h => by cases h) (by omega) (by rw [List.length_take]; omega)), .inr ⟨rfl, b, rfl, hwb, by rw [Lib.extract_data] at hB2; simpa using hB2⟩, hbw1.trans (hb2.mono hwb)⟩
              unfold expB
              rw [HSG.out.1, expP_else _ _ _ _ (by rw [HSG.out.2]; exact K9.out) (by rw [HSG.out.2]; exact K10.out), List.flatten_cons]
              rw [HSG.out.2, HDN.out]
            case measure =>
              have hrs := HRS.out.2
              simp only [hrs]
              omega
    · have htz : ¬ (0 : Int) < (t.size : Int) := by omega
      have hfin : Z = out := by
        have := HA.out.all
        rw [HZ.out, segs_empty t ht0] at this
        simpa [expB, expP] using this
      rcases hbuf with ⟨rfl, rfl⟩ | ⟨rfl, b, rfl, hwb, hB⟩
      · have hsame : out = s.data.toList := by
          rw [HA.out.same rfl, List.take_of_length_le (by rw [← Lib.size_eq]; omega)]
        have HF := Lib.hid (hfin.trans hsame)
        clear hfin hsame
        go_wp2
        go_ret
        exact ⟨ret_str (by rw [HF.out]), hbw⟩
      · have HF := Lib.hid hfin
        clear hfin
        go_wp2_with (go_at_call 50; (with_reducible refine (string_any _ _ _ hB).mono ?_); rintro e w3 ⟨rfl, -, hb3, -⟩; dsimp only)
        go_wp2
        go_ret
        exact ⟨ret_str (by rw [HF.out]), hbw.trans (hb3.mono hwb)⟩
end Go.Proofs.YtdomnccokhhieaaDoor
