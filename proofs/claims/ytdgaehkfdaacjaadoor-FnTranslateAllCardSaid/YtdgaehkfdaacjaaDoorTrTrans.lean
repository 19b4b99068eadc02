/- The walk of a translator's Translate. -/
import Derived.Test.YtdgaehkfdaacjaaDoorTrRune
import Derived.Test.YtdgaehkfdaacjaaDoorTrOk
import Derived.Test.YtdgaehkfdaacjaaDoorBuildRune
import Derived.Test.YtdgaehkfdaacjaaDoorAllocT
import Derived.Test.YtdgaehkfdaacjaaDoorEnc
import Derived.LoopTactic
set_option linter.unusedVariables false
namespace Go.Proofs.YtdgaehkfdaacjaaDoor
open Go.RowKit Plain

/-- what a translator writes for a piece of a text -/
def trSeg (d : TD) (fl : Int × Bool × Bool × Bool) (c : List UInt8) : List UInt8 :=
  if (trR d fl (runeOf c)).2.1 = true then (if (trR d fl (runeOf c)).2.2 = true then [] else Lib.encodeRune (trR d fl (runeOf c)).1) else c
def trL (d : TD) (fl : Int × Bool × Bool × Bool) (l : List UInt8) : List UInt8 := ((segs l).map (trSeg d fl)).flatten
theorem trR_bd {d : TD} {fl : Int × Bool × Bool × Bool} (hd : DOk d) (h0 : -1 ≤ fl.1) (h1 : fl.1 ≤ 1114111) {r : Nat} (hr : r ≤ 1114111) : -10000000 ≤ (trR d fl r).1 ∧ (trR d fl r).1 ≤ 10000000 ∧ ((trR d fl r).2.2 = true → (trR d fl r).2.1 = true) := by
  have hrl : ∀ (k : Nat) (c : Int), rl d.R k (r : Int) = some c → -10000000 ≤ c ∧ c ≤ 10000000 := by
    intro k
    induction k with
    | zero => intro c h; cases h
    | succ k ih =>
      intro c h
      simp only [rl] at h
      split at h
      · rename_i x hx
        split at h
        · injection h with h
          obtain ⟨x0, x1, x2, x3, x4, x5, x6, x7⟩ := hd.2 x (List.mem_of_getElem? hx)
          unfold rval at h
          split at h
          · omega
          · split at h <;> omega
        · exact ih c h
      · exact ih c h
  unfold trR
  cases h : tlook d (r : Int) with
  | none => simp only; split <;> (refine ⟨?_, ?_, ?_⟩ <;> simp <;> omega)
  | some c =>
    have hc : -10000000 ≤ c ∧ c ≤ 10000000 := by
      unfold tlook at h
      split at h
      · injection h with h
        subst h
        rename_i hs
        have := hd.1 _ _ hs
        omega
      · exact hrl _ _ h
    simp only
    split
    · refine ⟨?_, ?_, ?_⟩ <;> simp <;> omega
    · refine ⟨?_, ?_, fun _ => rfl⟩
      · show -10000000 ≤ (if 0 ≤ fl.1 then fl.1 else c)
        split <;> omega
      · show (if 0 ≤ fl.1 then fl.1 else c) ≤ 10000000
        split <;> omega
theorem enc_len4 (x : Int) : (Lib.encodeRune x).length ≤ 4 := encode_len x
theorem trL_step (d : TD) (fl : Int × Bool × Bool × Bool) (t : ByteArray) (R K : Nat) (h : Head t R K) : trL d fl t.data.toList = trSeg d fl (t.data.toList.take K) ++ trL d fl (t.extract K t.size).data.toList := by
  unfold trL
  rw [segs_rest t R K h, List.map_cons, List.flatten_cons]
/-- a text is translated -/
theorem trRune_c {base b : Nat} {vs : Value} {d : TD} {fl : Int × Bool × Bool × Bool} {vq vm vr : Value} {w : World} (h : TrQ base b vs d fl vq vm vr w) (hd : DOk d) (r : Nat) (hr : r ≤ 1114111) (hlen : d.R.length ≤ 10000000000) (x : Int) (mt dl : Bool) (hx : trR d fl r = (x, mt, dl)) :
    Calls Tryd.prog 49 #[.pointer (some ⟨b, 0, none⟩), .int .i32 (r : Int)] w fun e w' => e = .returned (.tuple #[.int .i32 x, .bool mt, .bool dl]) ∧ Below w.heap.size w w' := by
  have := trRune_any base b vs d fl vq vm vr w h hd r hr hlen
  unfold TrRPost at this
  rw [hx] at this
  exact this
theorem trSeg_cases (d : TD) (fl : Int × Bool × Bool × Bool) (c : List UInt8) (x : Int) (mt dl : Bool) (h : trR d fl (runeOf c) = (x, mt, dl)) : trSeg d fl c = if mt = true then (if dl = true then [] else Lib.encodeRune x) else c := by
  unfold trSeg
  rw [h]
theorem trSeg_len (d : TD) (fl : Int × Bool × Bool × Bool) (c : List UInt8) (hc : 1 ≤ c.length) : (trSeg d fl c).length ≤ 4 * c.length := by
  unfold trSeg
  split
  · split
    · simp
    · have := enc_len4 (trR d fl (runeOf c)).1; omega
  · omega
def OutV (s t : ByteArray) (O : List UInt8) (B : Nat) (ov : Value) (w : World) : Prop :=
  (ov = .pointer none ∧ O = s.data.toList.take (s.size - t.size)) ∨ ∃ ob, ov = .pointer (some ⟨ob, 0, none⟩) ∧ IsB ob O w ∧ B ≤ ob
theorem take_step (s t : ByteArray) (K : Nat) (D : List UInt8) (hD : s.data.toList = D ++ t.data.toList) (hK : K ≤ t.size) : s.data.toList.take (s.size - t.size) = D ∧ D.length + t.size = s.size ∧
    s.data.toList = (D ++ t.data.toList.take K) ++ (t.extract K t.size).data.toList ∧ s.data.toList.take (s.size - (t.extract K t.size).size) = D ++ t.data.toList.take K := by
  have hl : D.length + t.size = s.size := by
    have := congrArg List.length hD
    rw [List.length_append, ← Lib.size_eq, ← Lib.size_eq] at this
    exact this.symm
  have e3 : s.data.toList = (D ++ t.data.toList.take K) ++ (t.extract K t.size).data.toList := by
    rw [(rest_of t K).1, List.append_assoc, List.take_append_drop]
    exact hD
  refine ⟨?_, hl, e3, ?_⟩
  · rw [hD, show s.size - t.size = D.length by omega, List.take_left]
  · have hz : (D ++ t.data.toList.take K).length = s.size - (t.extract K t.size).size := by
      rw [(rest_of t K).2, List.length_append, List.length_take, ← Lib.size_eq]
      omega
    rw [← hz]
    conv => lhs; rw [e3]
    exact List.take_left
set_option maxHeartbeats 8000000 in
set_option maxRecDepth 100000 in
theorem translate_any (base b : Nat) (vs : Value) (d : TD) (fl : Int × Bool × Bool × Bool) (vq vm vr : Value) (s : ByteArray) (w : World) (h : TrQ base b vs d fl vq vm vr w) (hd : DOk d) (h0 : -1 ≤ fl.1) (h1 : fl.1 ≤ 1114111) (hlen : d.R.length ≤ 10000000000) (hs : s.size ≤ 2147483647) (hT : Tabs w) (hhas : fl.2.2.2 = true) :
    Calls Tryd.prog 37 #[.pointer (some ⟨b, 0, none⟩), .string s] w fun e w' => e = .returned (.string ⟨(trL d fl s.data.toList).toArray⟩) ∧ Below w.heap.size w w' := by
  have c6 : w.cell? ⟨b, 6, none⟩ = some (.bool true) := by rw [← hhas]; simp [World.cell?, h.blk]
  have H := Lib.hid h
  have HD := Lib.hid hd
  have HZ0 := Lib.hid hlen
  clear h hd hhas
  by_cases hz : s.size = 0
  · have hl : s.data.toList = [] := List.eq_nil_of_length_eq_zero (by rw [← Lib.size_eq]; exact hz)
    have hse : s.toList.isEmpty = true := by rw [ByteArray.toList_eq, hl]; rfl
    have hse2 : s = ⟨#[]⟩ := by apply ByteArray.ext; exact Array.toList_inj.1 hl
    have hfin : Hid (s = ⟨(trL d fl s.data.toList).toArray⟩) := Lib.hid (by rw [hl]; exact hse2)
    clear hz hl hse2
    go_enter Tryd.func37, Tryd.ntmps37
    go_wp2
    go_ret
    exact ⟨ret_str hfin.out, Below.refl _ _⟩
  have hse : s.toList.isEmpty = false := by
    rw [ByteArray.toList_eq]
    cases hl : s.data.toList with
    | nil => exact absurd (by rw [Lib.size_eq, hl]; rfl) hz
    | cons a l => rfl
  obtain ⟨Z, hZ⟩ : ∃ Z, trL d fl s.data.toList = Z := ⟨_, rfl⟩
  rw [hZ]
  have HZ := Lib.hid hZ
  clear hZ hz
  go_enter Tryd.func37, Tryd.ntmps37
  go_wp2
  go_loopw [1, 10] (fun sv ov wr => ∃ (t : ByteArray) (D O : List UInt8), sv = .string t ∧ s.data.toList = D ++ t.data.toList ∧ OutV s t O w.heap.size ov wr ∧ O ++ trL d fl t.data.toList = Z ∧ O.length ≤ 4 * D.length ∧ Below w.heap.size w wr) (fun sv _ _ => match sv with | .string t => t.size | _ => 0)
  case atStart => exact ⟨s, [], [], rfl, rfl, .inl ⟨rfl, by simp⟩, HZ.out, by simp, Below.refl _ _⟩
  case round =>
    obtain ⟨t, D, O, rfl, hD, hov, hO, hOl, hbw⟩ := hrel
    have hTr := hT.below hbw
    have HTQ := Lib.hid (H.out.keep (p := fun _ => True) (Keep.of_below hbw) trivial (fun _ _ => trivial))
    by_cases ht0 : 0 < t.size
    · have htz : (0 : Int) < (t.size : Int) := by omega
      obtain ⟨R, K, hh⟩ := head_of t ht0
      have HH := Lib.hid hh
      have hR1 : R ≤ 1114111 := hh.rune
      have hK1 : 1 ≤ K := hh.pos
      have hK2 : K ≤ t.size := hh.le
      obtain ⟨q1, q2, q3, q4⟩ := take_step s t K D hD hK2
      obtain ⟨x, mt, dl, hx⟩ : ∃ x mt dl, trR d fl R = (x, mt, dl) := ⟨_, _, _, rfl⟩
      have hbd := trR_bd HD.out h0 h1 hR1
      rw [hx] at hbd
      obtain ⟨hx0, hx1, hdm⟩ := hbd
      dsimp only at hx0 hx1 hdm
      have hsc := trSeg_cases d fl (t.data.toList.take K) x mt dl (by rw [← hh.run]; exact hx)
      have hsl := trSeg_len d fl (t.data.toList.take K) (by rw [List.length_take, ← Lib.size_eq]; omega)
      have htl : (t.data.toList.take K).length = K := by rw [List.length_take, ← Lib.size_eq]; omega
      rw [htl] at hsl
      rw [trL_step d fl t R K hh, ← List.append_assoc] at hO
      have HRS := Lib.hid (rest_of t K).2
      have HTR := Lib.hid (fun w' (hb : Below wr.heap.size wr w') => trRune_c (HTQ.out.keep (p := fun _ => True) (Keep.of_below hb) trivial (fun _ _ => trivial)) HD.out R hR1 HZ0.out x mt dl hx)
      have hxe : (t.extract 0 K).data.toList = t.data.toList.take K := by rw [Lib.extract_data]; simp
      have HXE := Lib.hid hxe
      have hxz : (t.extract 0 K).size = K := by simp; omega
      have HXZ := Lib.hid hxz
      have HO := Lib.hid hO
      have Q1 := Lib.hid q1
      have Q3 := Lib.hid q3
      have Q4 := Lib.hid q4
      have HSC := Lib.hid hsc
      have hOl2 : (O ++ trSeg d fl (t.data.toList.take K)).length ≤ 4 * (D ++ t.data.toList.take K).length := by rw [List.length_append, List.length_append, htl]; omega
      have HOL := Lib.hid hOl2
      have hOn : O.length + 4 ≤ 140737488355328 := by omega
      have hOk : O.length + K ≤ 140737488355328 := by omega
      clear hD hO hx hh hsc hxe hxz hOl2 q1 q3 q4
      cases mt with
      | false =>
        have hseg : Hid (trSeg d fl (t.data.toList.take K) = t.data.toList.take K) := Lib.hid (by rw [HSC.out]; rfl)
        have hdl : dl = false := by cases dl; rfl; exact absurd (hdm rfl) (by simp)
        subst hdl
        clear hdm
        rcases hov with ⟨rfl, hov⟩ | ⟨ob, rfl, hB, hob⟩
        · have HOV := Lib.hid hov
          clear hov
          go_wp2_with (go_at_call 41; (with_reducible refine (decode_any t _ hTr R K HH).mono ?_); rintro e w1 ⟨rfl, hb1⟩; dsimp only)
          go_wp2_with (go_at_call 49; (with_reducible refine (HTR.out _ hb1).mono ?_); rintro e w2 ⟨rfl, hb2⟩; dsimp only)
          go_wp2
          go_roundw
          case rel => exact ⟨_, D ++ t.data.toList.take K, O ++ trSeg d fl (t.data.toList.take K), rfl, Q3.out, .inl ⟨rfl, by rw [Q4.out, hseg.out, HOV.out, Q1.out]⟩, HO.out, HOL.out, (hbw.trans (hb1.mono hbw.size)).trans (hb2.mono (Nat.le_trans hbw.size hb1.size))⟩
          case measure =>
            have hrs := HRS.out
            simp only [hrs]
            omega
        · go_wp2_with (go_at_call 41; (with_reducible refine (decode_any t _ hTr R K HH).mono ?_); rintro e w1 ⟨rfl, hb1⟩; dsimp only)
          go_wp2_with (go_at_call 49; (with_reducible refine (HTR.out _ hb1).mono ?_); rintro e w2 ⟨rfl, hb2⟩; dsimp only)
          have hB2 := (hB.below hb1).below hb2
          have hl : O.length + (t.extract 0 K).size ≤ 140737488355328 := by rw [HXZ.out]; exact hOk
          go_wp2_with (go_at_call 46; (with_reducible refine (writeString_any _ _ _ _ hB2 hl).mono ?_); rintro e w3 ⟨rfl, hB3, hb3, -⟩; dsimp only)
          go_wp2
          go_roundw
          case rel => exact ⟨_, D ++ t.data.toList.take K, O ++ trSeg d fl (t.data.toList.take K), rfl, Q3.out, .inr ⟨ob, rfl, by rw [hseg.out, ← HXE.out]; exact hB3, hob⟩, HO.out, HOL.out, ((hbw.trans (hb1.mono hbw.size)).trans (hb2.mono (Nat.le_trans hbw.size hb1.size))).trans (hb3.mono hob)⟩
          case measure =>
            have hrs := HRS.out
            simp only [hrs]
            omega
      | true =>
        cases dl with
        | true =>
          have hseg : Hid (trSeg d fl (t.data.toList.take K) = []) := Lib.hid (by rw [HSC.out]; rfl)
          clear hdm
          rcases hov with ⟨rfl, hov⟩ | ⟨ob, rfl, hB, hob⟩
          · have HOV := Lib.hid hov
            clear hov
            go_wp2_with (go_at_call 41; (with_reducible refine (decode_any t _ hTr R K HH).mono ?_); rintro e w1 ⟨rfl, hb1⟩; dsimp only)
            go_wp2_with (go_at_call 49; (with_reducible refine (HTR.out _ hb1).mono ?_); rintro e w2 ⟨rfl, hb2⟩; dsimp only)
            go_wp2_with (go_at_call 45; (with_reducible refine (allocBuffer_any s t _ (by omega) hs).mono ?_); rintro e w3 ⟨rfl, hB3, hb3⟩; dsimp only)
            go_wp2
            go_roundw
            case rel => exact ⟨_, D ++ t.data.toList.take K, O ++ trSeg d fl (t.data.toList.take K), rfl, Q3.out, .inr ⟨w2.heap.size, rfl, by rw [hseg.out, List.append_nil, HOV.out]; exact hB3, Nat.le_trans hbw.size (Nat.le_trans hb1.size hb2.size)⟩, HO.out, HOL.out, ((hbw.trans (hb1.mono hbw.size)).trans (hb2.mono (Nat.le_trans hbw.size hb1.size))).trans (hb3.mono (Nat.le_trans hbw.size (Nat.le_trans hb1.size hb2.size)))⟩
            case measure =>
              have hrs := HRS.out
              simp only [hrs]
              omega
          · go_wp2_with (go_at_call 41; (with_reducible refine (decode_any t _ hTr R K HH).mono ?_); rintro e w1 ⟨rfl, hb1⟩; dsimp only)
            go_wp2_with (go_at_call 49; (with_reducible refine (HTR.out _ hb1).mono ?_); rintro e w2 ⟨rfl, hb2⟩; dsimp only)
            have hB2 := (hB.below hb1).below hb2
            go_wp2
            go_roundw
            case rel => exact ⟨_, D ++ t.data.toList.take K, O ++ trSeg d fl (t.data.toList.take K), rfl, Q3.out, .inr ⟨ob, rfl, by rw [hseg.out, List.append_nil]; exact hB2, hob⟩, HO.out, HOL.out, (hbw.trans (hb1.mono hbw.size)).trans (hb2.mono (Nat.le_trans hbw.size hb1.size))⟩
            case measure =>
              have hrs := HRS.out
              simp only [hrs]
              omega
        | false =>
          have hseg : Hid (trSeg d fl (t.data.toList.take K) = Lib.encodeRune x) := Lib.hid (by rw [HSC.out]; rfl)
          clear hdm
          rcases hov with ⟨rfl, hov⟩ | ⟨ob, rfl, hB, hob⟩
          · have HOV := Lib.hid hov
            have hOn2 : (s.data.toList.take (s.size - t.size)).length + 4 ≤ 140737488355328 := by rw [← hov]; exact hOn
            clear hov
            go_wp2_with (go_at_call 41; (with_reducible refine (decode_any t _ hTr R K HH).mono ?_); rintro e w1 ⟨rfl, hb1⟩; dsimp only)
            go_wp2_with (go_at_call 49; (with_reducible refine (HTR.out _ hb1).mono ?_); rintro e w2 ⟨rfl, hb2⟩; dsimp only)
            go_wp2_with (go_at_call 45; (with_reducible refine (allocBuffer_any s t _ (by omega) hs).mono ?_); rintro e w3 ⟨rfl, hB3, hb3⟩; dsimp only)
            go_wp2_with (go_at_call 50; (with_reducible refine (writeRune_any _ _ x _ (by omega) (by omega) hB3 hOn2).mono ?_); rintro e w4 ⟨rfl, hB4, hb4, -⟩; dsimp only)
            go_wp2
            go_roundw
            case rel => exact ⟨_, D ++ t.data.toList.take K, O ++ trSeg d fl (t.data.toList.take K), rfl, Q3.out, .inr ⟨w2.heap.size, rfl, by rw [hseg.out, HOV.out]; exact hB4, Nat.le_trans hbw.size (Nat.le_trans hb1.size hb2.size)⟩, HO.out, HOL.out, (((hbw.trans (hb1.mono hbw.size)).trans (hb2.mono (Nat.le_trans hbw.size hb1.size))).trans (hb3.mono (Nat.le_trans hbw.size (Nat.le_trans hb1.size hb2.size)))).trans (hb4.mono (Nat.le_trans hbw.size (Nat.le_trans hb1.size hb2.size)))⟩
            case measure =>
              have hrs := HRS.out
              simp only [hrs]
              omega
          · go_wp2_with (go_at_call 41; (with_reducible refine (decode_any t _ hTr R K HH).mono ?_); rintro e w1 ⟨rfl, hb1⟩; dsimp only)
            go_wp2_with (go_at_call 49; (with_reducible refine (HTR.out _ hb1).mono ?_); rintro e w2 ⟨rfl, hb2⟩; dsimp only)
            have hB2 := (hB.below hb1).below hb2
            go_wp2_with (go_at_call 50; (with_reducible refine (writeRune_any _ _ x _ (by omega) (by omega) hB2 hOn).mono ?_); rintro e w4 ⟨rfl, hB4, hb4, -⟩; dsimp only)
            go_wp2
            go_roundw
            case rel => exact ⟨_, D ++ t.data.toList.take K, O ++ trSeg d fl (t.data.toList.take K), rfl, Q3.out, .inr ⟨ob, rfl, by rw [hseg.out]; exact hB4, hob⟩, HO.out, HOL.out, ((hbw.trans (hb1.mono hbw.size)).trans (hb2.mono (Nat.le_trans hbw.size hb1.size))).trans (hb4.mono hob)⟩
            case measure =>
              have hrs := HRS.out
              simp only [hrs]
              omega
    · have htz : ¬ (0 : Int) < (t.size : Int) := by omega
      have htn : t.data.toList = [] := List.eq_nil_of_length_eq_zero (by rw [← Lib.size_eq]; omega)
      have hOZ : Hid (O = Z) := Lib.hid (by rw [htn] at hO; exact (List.append_nil O).symm.trans hO)
      have hDs : Hid (s.data.toList = D) := Lib.hid (by rw [htn, List.append_nil] at hD; exact hD)
      have hts : t.size = 0 := by omega
      rcases hov with ⟨rfl, hov⟩ | ⟨ob, rfl, hB, hob⟩
      · have hfin : Hid (s = ⟨Z.toArray⟩) := Lib.hid (by
          rw [← hOZ.out, hov, hts, Nat.sub_zero, List.take_of_length_le (by rw [← Lib.size_eq]; exact Nat.le_refl _)])
        clear hD hO hov htn hts
        go_wp2
        go_ret
        exact ⟨ret_str hfin.out, hbw⟩
      · clear hD hO htn hts
        go_wp2_with (go_at_call 47; (with_reducible refine (string_any _ _ _ hB).mono ?_); rintro e w3 ⟨rfl, -, hb3, -⟩; dsimp only)
        go_wp2
        go_ret
        exact ⟨ret_str (by rw [← hOZ.out]), hbw.trans (hb3.mono hob)⟩
end Go.Proofs.YtdgaehkfdaacjaaDoor
