/- The walk of xstrings.Scrub. -/
import Derived.Test.YtdomnccokhhieaaDoorBuild
namespace Go.Proofs.YtdomnccokhhieaaDoor
open Go.RowKit Plain

/-- what is left: 'he': an error stands ahead -/
def scr (repl : List UInt8) : List (List UInt8) → Bool → List UInt8
  | [], he => if he then repl else []
  | c :: cs, he => if runeOf c = 65533 then scr repl cs true else (if he then repl else []) ++ (c ++ scr repl cs false)
theorem scr_bad (repl c : List UInt8) (cs : List (List UInt8)) (he : Bool) (h : runeOf c = 65533) : scr repl (c :: cs) he = scr repl cs true := by
  rw [scr, if_pos h]
theorem scr_good (repl c : List UInt8) (cs : List (List UInt8)) (he : Bool) (h : ¬ runeOf c = 65533) : scr repl (c :: cs) he = (if he then repl else []) ++ (c ++ scr repl cs false) := by
  rw [scr, if_neg h]

/-- where the walk stands: 't': what is not read yet; 'o', 'p': what was read since the last write; 'B': what is written -/
structure ScrAt (s repl t o : ByteArray) (p : Nat) (he : Bool) (B : List UInt8) : Prop where
  rest : o.data.toList.drop p = t.data.toList
  le : p ≤ o.size
  os : o.size ≤ s.size
  ts : t.size ≤ s.size
  all : scr repl.data.toList (segs s.data.toList) false = B ++ ((if he then [] else o.data.toList.take p) ++ scr repl.data.toList (segs t.data.toList) he)
  size : B.length + (if he then 0 else p) ≤ (s.size - t.size) * (repl.size + 1)

theorem ScrAt.start (s repl : ByteArray) : ScrAt s repl s s 0 false [] where
  rest := rfl
  le := Nat.zero_le _
  os := Nat.le_refl _
  ts := Nat.le_refl _
  all := by simp
  size := by simp

theorem grows (a K T S M : Nat) (h : a ≤ (S - T) * (M + 1)) (hK : 1 ≤ K) (hT : K ≤ T) (hS : T ≤ S) : a + M + K ≤ (S - (T - K)) * (M + 1) := by
  have e : S - (T - K) = (S - T) + K := by omega
  rw [e, Nat.add_mul]
  have h2 : M + K ≤ K * (M + 1) := by
    rw [Nat.mul_succ]
    have := Nat.mul_le_mul_right M hK
    omega
  omega
theorem out_le {a S T M : Nat} (h : a ≤ (S - T) * (M + 1)) : a ≤ S * (M + 1) := Nat.le_trans h (Nat.mul_le_mul_right _ (Nat.sub_le _ _))

section
variable {s repl t o : ByteArray} {p : Nat} {he : Bool} {B : List UInt8} {R K : Nat}
theorem ScrAt.sizes (h : ScrAt s repl t o p he B) : o.size - p = t.size := by
  have := congrArg List.length h.rest
  rw [List.length_drop, ← Lib.size_eq, ← Lib.size_eq] at this
  exact this
theorem ScrAt.head (_h : ScrAt s repl t o p he B) (hh : Head t R K) : segs t.data.toList = t.data.toList.take K :: segs (t.extract K t.size).data.toList ∧ runeOf (t.data.toList.take K) = R := ⟨segs_rest t R K hh, hh.run.symm⟩
theorem ScrAt.next_rest (h : ScrAt s repl t o p he B) (_hh : Head t R K) : o.data.toList.drop (p + K) = (t.extract K t.size).data.toList := by
  rw [(rest_of t K).1, ← h.rest, List.drop_drop]
/-- an error, behind no other one: what was read is written -/
theorem ScrAt.bad0 (h : ScrAt s repl t o p false B) (hh : Head t 65533 K) : ScrAt s repl (t.extract K t.size) o (p + K) true (B ++ (o.extract 0 p).data.toList) := by
  have hz := h.sizes
  have hle := hh.le
  have hhd := h.head hh
  have hle' := h.le
  refine ⟨h.next_rest hh, by omega, h.os, by rw [(rest_of t K).2]; have := h.ts; omega, ?_, ?_⟩
  · rw [h.all, hhd.1, scr_bad _ _ _ _ hhd.2, Lib.extract_data]
    simp
  · have h1 := h.size
    have h2 := grows _ K t.size s.size repl.size h1 hh.pos hh.le h.ts
    rw [(rest_of t K).2, List.length_append, Lib.extract_data]
    simp only [Bool.false_eq_true, if_false] at h2
    simp only [if_true, List.length_take, List.length_drop]
    omega
theorem ScrAt.bad1 (h : ScrAt s repl t o p true B) (hh : Head t 65533 K) : ScrAt s repl (t.extract K t.size) o (p + K) true B := by
  have hz := h.sizes
  have hle := hh.le
  have hhd := h.head hh
  have hle' := h.le
  refine ⟨h.next_rest hh, by omega, h.os, by rw [(rest_of t K).2]; have := h.ts; omega, ?_, ?_⟩
  · rw [h.all, hhd.1, scr_bad _ _ _ _ hhd.2]
    simp
  · have h1 := h.size
    have h2 := grows _ K t.size s.size repl.size h1 hh.pos hh.le h.ts
    rw [(rest_of t K).2]
    simp only [if_true] at h2 ⊢
    omega
theorem ScrAt.good0 (h : ScrAt s repl t o p false B) (hh : Head t R K) (hR : ¬ R = 65533) : ScrAt s repl (t.extract K t.size) o (p + K) false B := by
  have hz := h.sizes
  have hle := hh.le
  have hhd := h.head hh
  have hle' := h.le
  refine ⟨h.next_rest hh, by omega, h.os, by rw [(rest_of t K).2]; have := h.ts; omega, ?_, ?_⟩
  · rw [h.all, hhd.1, scr_good _ _ _ _ (by rw [hhd.2]; exact hR), List.take_add, h.rest]
    simp
  · have h1 := h.size
    have h2 := grows _ K t.size s.size repl.size h1 hh.pos hh.le h.ts
    rw [(rest_of t K).2]
    simp only [Bool.false_eq_true, if_false] at h2 ⊢
    omega
theorem ScrAt.good1 (h : ScrAt s repl t o p true B) (hh : Head t R K) (hR : ¬ R = 65533) : ScrAt s repl (t.extract K t.size) (o.extract p o.size) K false (B ++ repl.data.toList) := by
  have hz := h.sizes
  have hle := hh.le
  have hhd := h.head hh
  have hle' := h.le
  have ho : (o.extract p o.size).data.toList = t.data.toList := by rw [(rest_of o p).1, h.rest]
  refine ⟨by rw [ho, (rest_of t K).1], by rw [(rest_of o p).2]; omega, by rw [(rest_of o p).2]; have := h.os; omega, by rw [(rest_of t K).2]; have := h.ts; omega, ?_, ?_⟩
  · rw [h.all, hhd.1, scr_good _ _ _ _ (by rw [hhd.2]; exact hR), ho]
    simp
  · have h1 := h.size
    have h2 := grows _ K t.size s.size repl.size h1 hh.pos hh.le h.ts
    rw [(rest_of t K).2, List.length_append, ← Lib.size_eq repl]
    simp only [if_true] at h2
    simp only [Bool.false_eq_true, if_false]
    omega
theorem ScrAt.fin0 (h : ScrAt s repl t o p false B) (h0 : ¬ 0 < t.size) : scr repl.data.toList (segs s.data.toList) false = B ++ o.data.toList := by
  have hz := h.sizes
  rw [h.all, segs_empty t h0, List.take_of_length_le (by rw [← Lib.size_eq]; omega)]
  simp [scr]
theorem ScrAt.fin1 (h : ScrAt s repl t o p true B) (h0 : ¬ 0 < t.size) : scr repl.data.toList (segs s.data.toList) false = B ++ repl.data.toList := by
  rw [h.all, segs_empty t h0]
  simp [scr]
end

theorem str_mk {l : List UInt8} {o : ByteArray} (h : l = o.data.toList) : o = ⟨l.toArray⟩ := by subst h; rfl
set_option maxHeartbeats 4000000 in
set_option maxRecDepth 100000 in
theorem scrub_any (s repl : ByteArray) (w : World) (hs : s.size ≤ 140737488355328) (hbd : s.size * (repl.size + 1) + repl.size + s.size ≤ 140737488355328) (hT : Tabs w) :
    Calls Tryd.prog 36 #[.string s, .string repl] w fun e w' => e = .returned (.string ⟨(scr repl.data.toList (segs s.data.toList) false).toArray⟩) ∧ Below w.heap.size w w' := by
  obtain ⟨M, hM⟩ : ∃ M, s.size * (repl.size + 1) = M := ⟨_, rfl⟩
  rw [hM] at hbd
  obtain ⟨Z, hZ⟩ : ∃ Z, scr repl.data.toList (segs s.data.toList) false = Z := ⟨_, rfl⟩
  rw [hZ]
  have HM := Lib.hid hM
  have HZ := Lib.hid hZ
  clear hM hZ
  have hrs : repl.size ≤ 140737488355328 := by omega
  go_enter Tryd.func36, Tryd.ntmps36
  go_wp2
  go_loopw [0, 5, 8, 9, 10] (fun str bv pv hv ov wr => ∃ (t o : ByteArray) (p : Nat) (he : Bool) (B : List UInt8), str = .string t ∧ pv = .int .i64 p ∧ hv = .bool he ∧ ov = .string o ∧ ScrAt s repl t o p he B ∧ ((bv = .pointer none ∧ he = false ∧ B = []) ∨ ∃ b, bv = .pointer (some ⟨b, 0, none⟩) ∧ w.heap.size ≤ b ∧ IsB b B wr) ∧ Below w.heap.size w wr) (fun str _ _ _ _ _ => match str with | .string t => t.size | _ => 0)
  case atStart => exact ⟨s, s, 0, false, [], rfl, rfl, rfl, rfl, ScrAt.start s repl, .inl ⟨rfl, rfl, rfl⟩, Below.refl _ _⟩
  case round =>
    obtain ⟨t, o, p, he, B, rfl, rfl, rfl, rfl, ha, hbuf, hbw⟩ := hrel
    have hTr := hT.below hbw
    have hpo := ha.le
    have hos := ha.os
    have hts := ha.ts
    have hsz := ha.sizes
    have hBM : B.length + (if he then 0 else p) ≤ M := by rw [← HM.out]; exact out_le ha.size
    have HA := Lib.hid ha
    clear ha
    by_cases ht0 : 0 < t.size
    · have htz : (0 : Int) < (t.size : Int) := by omega
      obtain ⟨R, K, hh⟩ := head_of t ht0
      have HH := Lib.hid hh
      have hK1 := hh.pos
      have hK2 := hh.le
      have HRS := Lib.hid (rest_of t K)
      have hR1 := hh.rune
      clear hh
      by_cases hR : R = 65533
      · subst hR
        rcases hbuf with ⟨rfl, rfl, rfl⟩ | ⟨b, rfl, hwb, hB⟩
        · -- the first error of all
          go_wp2_with (go_at_call 51; (with_reducible refine (decode_any t _ hTr _ K HH).mono ?_); rintro e w1 ⟨rfl, hb1⟩)
          have hbw1 : Below w.heap.size w w1 := hbw.trans (hb1.mono hbw.size)
          have hxs : (o.extract 0 p).size = p := by simp; omega
          have hf := fresh_isB w1
          have hl : ([] : List UInt8).length + (o.extract 0 p).size ≤ 140737488355328 := by rw [hxs]; simp; omega
          go_wp2_with (go_at_call 48; (with_reducible refine (writeString_any _ _ _ _ hf hl).mono ?_))
          rintro e w2 ⟨rfl, hB2, hb2, -⟩
          dsimp only
          clear hxs
          go_wp2
          go_roundw
          case rel =>
            exact ⟨t.extract K t.size, o, p + K, true, _, rfl, by go_num, rfl, rfl, HA.out.bad0 HH.out, .inr ⟨w1.heap.size, rfl, hbw1.size, hB2⟩, hbw1.trans ((((Below.refl _ w1).alloc (Nat.le_refl _) _).trans hb2).mono hbw1.size)⟩
          case measure =>
            have hrs := HRS.out.2
            simp only [hrs]
            omega
        · cases he with
          | false =>
            have hBM' : B.length + p ≤ M := by simpa using hBM
            go_wp2_with (go_at_call 51; (with_reducible refine (decode_any t _ hTr _ K HH).mono ?_); rintro e w1 ⟨rfl, hb1⟩)
            have hbw1 : Below w.heap.size w w1 := hbw.trans (hb1.mono hbw.size)
            have hxs : (o.extract 0 p).size = p := by simp; omega
            have hf := hB.below hb1
            have hl : B.length + (o.extract 0 p).size ≤ 140737488355328 := by rw [hxs]; omega
            go_wp2_with (go_at_call 48; (with_reducible refine (writeString_any _ _ _ _ hf hl).mono ?_))
            rintro e w2 ⟨rfl, hB2, hb2, -⟩
            dsimp only
            clear hxs
            go_wp2
            go_roundw
            case rel =>
              exact ⟨t.extract K t.size, o, p + K, true, _, rfl, by go_num, rfl, rfl, HA.out.bad0 HH.out, .inr ⟨b, rfl, hwb, hB2⟩, hbw1.trans (hb2.mono hwb)⟩
            case measure =>
              have hrs := HRS.out.2
              simp only [hrs]
              omega
          | true =>
            go_wp2_with (go_at_call 51; (with_reducible refine (decode_any t _ hTr _ K HH).mono ?_); rintro e w1 ⟨rfl, hb1⟩)
            have hbw1 : Below w.heap.size w w1 := hbw.trans (hb1.mono hbw.size)
            go_roundw
            case rel =>
              exact ⟨t.extract K t.size, o, p + K, true, B, rfl, by go_num, rfl, rfl, HA.out.bad1 HH.out, .inr ⟨b, rfl, hwb, hB.below hb1⟩, hbw1⟩
            case measure =>
              have hrs := HRS.out.2
              simp only [hrs]
              omega
      · have hRz : (((R : Int)) == 65533) = false := by rw [beq_eq_false_iff_ne]; omega
        cases he with
        | false =>
          go_wp2_with (go_at_call 51; (with_reducible refine (decode_any t _ hTr _ K HH).mono ?_); rintro e w1 ⟨rfl, hb1⟩)
          have hbw1 : Below w.heap.size w w1 := hbw.trans (hb1.mono hbw.size)
          go_roundw
          case rel =>
            refine ⟨t.extract K t.size, o, p + K, false, B, rfl, by go_num, rfl, rfl, HA.out.good0 HH.out hR, ?_, hbw1⟩
            rcases hbuf with ⟨rfl, _, rfl⟩ | ⟨b, rfl, hwb, hB⟩
            · exact .inl ⟨rfl, rfl, rfl⟩
            · exact .inr ⟨b, rfl, hwb, hB.below hb1⟩
          case measure =>
            have hrs := HRS.out.2
            simp only [hrs]
            omega
        | true =>
          rcases hbuf with ⟨_, h, _⟩ | ⟨b, rfl, hwb, hB⟩
          · cases h
          have hBM' : B.length ≤ M := by simpa using hBM
          go_wp2_with (go_at_call 51; (with_reducible refine (decode_any t _ hTr _ K HH).mono ?_); rintro e w1 ⟨rfl, hb1⟩)
          have hbw1 : Below w.heap.size w w1 := hbw.trans (hb1.mono hbw.size)
          have hf := hB.below hb1
          have hl : B.length + repl.size ≤ 140737488355328 := by omega
          go_wp2_with (go_at_call 48; (with_reducible refine (writeString_any _ _ repl _ hf hl).mono ?_))
          rintro e w2 ⟨rfl, hB2, hb2, -⟩
          dsimp only
          go_wp2
          go_roundw
          case rel =>
            exact ⟨t.extract K t.size, o.extract p o.size, K, false, _, rfl, by go_num, rfl, rfl, HA.out.good1 HH.out hR, .inr ⟨b, rfl, hwb, hB2⟩, hbw1.trans (hb2.mono hwb)⟩
          case measure =>
            have hrs := HRS.out.2
            simp only [hrs]
            omega
    · have htz : ¬ (0 : Int) < (t.size : Int) := by omega
      rcases hbuf with ⟨rfl, rfl, rfl⟩ | ⟨b, rfl, hwb, hB⟩
      · have hfin := HA.out.fin0 ht0
        go_wp2
        go_ret
        rw [HZ.out, List.nil_append] at hfin
        exact ⟨ret_str (str_mk hfin), hbw⟩
      · cases he with
        | false =>
          have hfin := HA.out.fin0 ht0
          have hBM' : B.length + p ≤ M := by simpa using hBM
          have hl : B.length + o.size ≤ 140737488355328 := by omega
          go_wp2_with (go_at_call 48; (with_reducible refine (writeString_any _ _ o _ hB hl).mono ?_); rintro e w2 ⟨rfl, hB2, hb2, -⟩; dsimp only)
          go_wp2_with (go_at_call 50; (with_reducible refine (string_any _ _ _ hB2).mono ?_); rintro e w3 ⟨rfl, -, hb3, -⟩; dsimp only)
          go_wp2
          go_ret
          rw [HZ.out] at hfin
          exact ⟨ret_str (by rw [hfin]), hbw.trans ((hb2.trans hb3).mono hwb)⟩
        | true =>
          have hfin := HA.out.fin1 ht0
          have hBM' : B.length ≤ M := by simpa using hBM
          have hl : B.length + repl.size ≤ 140737488355328 := by omega
          go_wp2_with (go_at_call 48; (with_reducible refine (writeString_any _ _ repl _ hB hl).mono ?_); rintro e w2 ⟨rfl, hB2, hb2, -⟩; dsimp only)
          go_wp2_with (go_at_call 50; (with_reducible refine (string_any _ _ _ hB2).mono ?_); rintro e w3 ⟨rfl, -, hb3, -⟩; dsimp only)
          go_wp2
          go_ret
          rw [HZ.out] at hfin
          exact ⟨ret_str (by rw [hfin]), hbw.trans ((hb2.trans hb3).mono hwb)⟩
end Go.Proofs.YtdomnccokhhieaaDoor
