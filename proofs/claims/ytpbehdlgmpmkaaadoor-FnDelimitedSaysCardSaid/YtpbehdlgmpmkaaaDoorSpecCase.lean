/- What the printed functions of the reference (spec.Delimited and those that it calls) answer. -/
import Derived.Test.YtpbehdlgmpmkaaaDoorPFnDelimitedSaysx3
import Derived.Test.YtpbehdlgmpmkaaaDoorCaseImpl
set_option linter.unusedVariables false
namespace Go.Proofs.YtpbehdlgmpmkaaaDoor
open Go.RowKit Plain PFnDelimitedSays Go.Proofs.YtpbehdlgmpmkaaaDoorW.PrintWords

theorem bt_at' (s : ByteArray) (i : Nat) (x : UInt8) (h : s.data.toList[i]? = some x) : bt s (i : Int) = (x.toNat : Int) := by
  obtain ⟨hi, hx⟩ := List.getElem?_eq_some_iff.1 h
  rw [← Lib.size_eq] at hi
  unfold bt
  rw [dif_pos (by simpa using hi)]
  have := Lib.data_getElem? s i hi
  rw [h] at this
  have e := Option.some.inj this
  simp only [Int.toNat_natCast]
  rw [← e]
theorem low_f (x : UInt8) : spec_lower.f (x.toNat : Int) = some (lowB x) := by
  unfold spec_lower.f
  rw [low_val]
  split
  · congr 1; simp; omega
  · congr 1; simp; omega
theorem up_f (x : UInt8) : spec_upper.f (x.toNat : Int) = some (capB x) := by
  unfold spec_upper.f
  rw [cap_val]
  split
  · congr 1; simp; omega
  · congr 1; simp; omega
theorem dig_f (x : UInt8) : spec_digit.f (x.toNat : Int) = some (numB x) := by
  unfold spec_digit.f
  rw [num_val]
  split
  · congr 1; simp; omega
  · congr 1; simp; omega
theorem parts_f (x : UInt8) : spec_parts.f (x.toNat : Int) = some (sepB x) := by
  unfold spec_parts.f sepB
  by_cases h1 : x.toNat = 32
  · simp [h1]
  by_cases h2 : x.toNat = 95
  · simp [h2]
  by_cases h3 : x.toNat = 45
  · simp [h3]
  · rw [if_neg (by omega), if_neg (by omega), if_neg (by omega)]
    congr 1
    rw [Bool.eq_iff_iff]
    simp only [beq_iff_eq, Bool.or_eq_true]
    omega
theorem turn_f (k : Nat) (x : UInt8) (scr : Bool) : spec_turnCase.f (k + 1) (x.toNat : Int) scr = some ((trn scr x).toNat : Int) := by
  have hv := trn_val scr x
  have hl := low_val x
  have hc := cap_val x
  unfold spec_turnCase.f
  cases scr with
  | true =>
    rw [if_pos rfl, low_f, Option.bind_some, spec_turnCase.j0]
    cases h : lowB x with
    | true =>
      rw [h] at hl
      have := of_decide_eq_true hl.symm
      rw [if_pos rfl, hv, if_pos ⟨this, rfl⟩]
      congr 1; omega
    | false =>
      rw [h] at hl
      have := of_decide_eq_false hl.symm
      rw [if_neg (by decide), if_pos rfl, hv, if_neg (fun k => this k.1), if_neg (fun k => by cases k.2)]
  | false =>
    rw [if_neg (by decide), spec_turnCase.j0, if_neg (by decide), if_neg (by decide), up_f, Option.bind_some]
    cases h : capB x with
    | true =>
      rw [h] at hc
      have := of_decide_eq_true hc.symm
      rw [if_pos rfl, hv, if_neg (fun k => by cases k.2), if_pos ⟨this, rfl⟩]
      congr 1; omega
    | false =>
      rw [h] at hc
      have := of_decide_eq_false hc.symm
      rw [if_neg (by decide), hv, if_neg (fun k => by cases k.2), if_neg (fun k => this k.1)]
theorem w64 (n : Int) (h : -9223372036854775808 ≤ n ∧ n ≤ 9223372036854775807) : wrap64 n = n := by unfold wrap64; omega
theorem bord_f (k : Nat) (s : ByteArray) (i : Nat) (x : UInt8) (hs : s.size ≤ 2147483647) (hx : s.data.toList[i]? = some x) : spec_borders.f (k + 3) s (i : Int) = some (brd (prevAt s.data.toList i) x s.data.toList[i + 1]?) := by
  have hi := (List.getElem?_eq_some_iff.1 hx).1
  rw [← Lib.size_eq] at hi
  unfold spec_borders.f
  by_cases h0 : i = 0
  · subst h0
    rw [if_pos (by omega)]
    rfl
  · obtain ⟨a, ha⟩ : ∃ a, s.data.toList[i - 1]? = some a := ⟨_, List.getElem?_eq_getElem (by rw [← Lib.size_eq]; omega)⟩
    have e1 : wrap64 ((i : Int) - 1) = ((i - 1 : Nat) : Int) := by rw [w64 _ (by omega)]; omega
    have e2 : wrap64 ((i : Int) + 1) = ((i + 1 : Nat) : Int) := by rw [w64 _ (by omega)]; omega
    have hp : prevAt s.data.toList i = some a := by unfold prevAt; rw [if_neg h0, ha]
    rw [if_neg (by omega), e1, if_pos (by omega), if_pos (by omega), if_pos (by omega), if_pos (by omega), bt_at' s _ a ha, bt_at' s _ x hx, hp]
    simp only [low_f, up_f, dig_f, Option.bind_some, spec_borders.j0, spec_borders.j1, spec_borders.j2, e2]
    have hn : (if ((i + 1 : Nat) : Int) < (s.size : Int) then if (0 : Int) ≤ ((i + 1 : Nat) : Int) then (spec_lower.f (bt s ((i + 1 : Nat) : Int))).bind fun t => some t else none else some false) = some ((s.data.toList[i + 1]?.map lowB).getD false) := by
      by_cases hlt : i + 1 < s.size
      · obtain ⟨n, hn⟩ : ∃ n, s.data.toList[i + 1]? = some n := ⟨_, List.getElem?_eq_getElem (by rw [← Lib.size_eq]; omega)⟩
        rw [if_pos (by omega), if_pos (by omega), bt_at' s _ n hn, low_f, hn]
        rfl
      · rw [if_neg (by omega), List.getElem?_eq_none (by rw [← Lib.size_eq]; omega)]
        rfl
    rw [hn]
    simp only [brd]
    generalize (s.data.toList[i + 1]?.map lowB).getD false = z
    cases lowB a <;> cases capB a <;> cases numB a <;> cases lowB x <;> cases capB x <;> cases numB x <;> cases z <;> rfl
/-! ### a byte stands in a text -/
theorem run_big (l : List UInt8) (hne : l ≠ []) (h : ¬ (l.getD 0 0).toNat < 128) : (∀ b ∈ l.take (Lib.decodeL l).2, 128 ≤ b.toNat) ∧ 128 ≤ (Lib.decodeL l).1 := by
  have hl : 0 < l.length := List.length_pos_iff.2 hne
  have E := Lib.decodeL_N l
  rcases Lib.decodeN_shape l.length (l.getD 0 0).toNat (l.getD 1 0).toNat (l.getD 2 0).toNat (l.getD 3 0).toNat with ⟨c, e⟩ | ⟨c1, c2, c3, cv, e⟩ | ⟨c1, c2, c3, c4, cv, cs, e⟩ | ⟨c1, c2, c3, c4, c5, cv, cw, e⟩ | e
  all_goals rw [e] at E
  all_goals rw [E]
  all_goals dsimp only
  · exact absurd c h
  · rw [Lib.takeB l c2]
    exact ⟨fun b hb => by simp only [List.mem_cons, List.not_mem_nil, or_false] at hb; rcases hb with rfl | rfl <;> omega, by omega⟩
  · rw [Lib.takeC l c2]
    exact ⟨fun b hb => by simp only [List.mem_cons, List.not_mem_nil, or_false] at hb; rcases hb with rfl | rfl | rfl <;> omega, by omega⟩
  · rw [Lib.takeD l c2]
    exact ⟨fun b hb => by simp only [List.mem_cons, List.not_mem_nil, or_false] at hb; rcases hb with rfl | rfl | rfl | rfl <;> omega, by omega⟩
  · rw [Lib.takeA l hl]
    exact ⟨fun b hb => by simp only [List.mem_cons, List.not_mem_nil, or_false] at hb; rcases hb with rfl; omega, by omega⟩
theorem hasB_mem (c : UInt8) (hc : c.toNat < 128) : ∀ l : List UInt8, hasB l c = l.any (· == c) := by
  apply by_segs
  · rfl
  · intro l hne ih
    unfold hasB at ih ⊢
    rw [segs_step l hne, List.any_cons, ih]
    conv => rhs; rw [← List.take_append_drop (Lib.decodeL l).2 l, List.any_append]
    congr 1
    by_cases h : (l.getD 0 0).toNat < 128
    · obtain ⟨b, t, rfl⟩ : ∃ b t, l = b :: t := by cases l with | nil => exact absurd rfl hne | cons b t => exact ⟨b, t, rfl⟩
      have hb : b.toNat < 128 := h
      rw [Lib.decodeL_ascii b t hb]
      simp only [List.take_succ_cons, List.take_zero, List.any_cons, List.any_nil, Bool.or_false]
      rw [runeOf_ascii b hb, Bool.eq_iff_iff]
      simp only [beq_iff_eq]
      exact UInt8.toNat_inj
    · obtain ⟨h1, h2⟩ := run_big l hne h
      have e1 : ((l.take (Lib.decodeL l).2).any (· == c)) = false := by
        rw [List.any_eq_false]
        intro b hb
        have := h1 b hb
        simp only [beq_iff_eq]
        intro e
        rw [e] at this
        omega
      rw [e1]
      unfold runeOf
      rw [decodeL_take l hne, beq_eq_false_iff_ne]
      omega
theorem holds_l (ign : ByteArray) (c : UInt8) (hs : ign.size ≤ 2147483647) : ∀ (n i k : Nat), ign.size = i + n → n < k →
    spec_holds.l0 k ign (c.toNat : Int) (ign.size : Int) (i : Int) = some ((ign.data.toList.drop i).any (· == c))
  | 0, i, k, hn, hk => by
    obtain ⟨k, rfl⟩ : ∃ m, k = m + 1 := ⟨k - 1, by omega⟩
    simp only [spec_holds.l0]
    rw [if_neg (by omega), List.drop_eq_nil_of_le (by rw [← Lib.size_eq]; omega)]
    rfl
  | n + 1, i, k, hn, hk => by
    obtain ⟨k, rfl⟩ : ∃ m, k = m + 1 := ⟨k - 1, by omega⟩
    have hil : i < ign.data.toList.length := by rw [← Lib.size_eq]; omega
    obtain ⟨x, hx⟩ : ∃ x, ign.data.toList[i]? = some x := ⟨_, List.getElem?_eq_getElem hil⟩
    obtain ⟨_, hx2⟩ := List.getElem?_eq_some_iff.1 hx
    simp only [spec_holds.l0]
    rw [if_pos (by omega), if_pos (by omega), if_pos (by omega), bt_at' ign i x hx, List.drop_eq_getElem_cons hil, hx2, List.any_cons]
    by_cases h : x = c
    · subst h
      rw [if_pos rfl]
      simp
    · have hne : ¬ (x.toNat : Int) = (c.toNat : Int) := by
        intro e
        exact h (UInt8.toNat_inj.1 (by omega))
      rw [if_neg hne, w64 _ (by omega), show ((i : Int) + 1) = ((i + 1 : Nat) : Int) by omega, holds_l ign c hs n (i + 1) k (by omega) (by omega)]
      have : (x == c) = false := by rw [beq_eq_false_iff_ne]; exact h
      rw [this, Bool.false_or]
theorem holds_f (ign : ByteArray) (c : UInt8) (hc : c.toNat < 128) (hs : ign.size ≤ 2147483647) (k : Nat) (hk : ign.size < k) : spec_holds.f k ign (c.toNat : Int) = some (hasB ign.data.toList c) := by
  unfold spec_holds.f
  have := holds_l ign c hs ign.size 0 k (by omega) hk
  rw [hasB_mem c hc]
  simpa using this

/-! ### the words -/
def cG (d : UInt8) (ign : List UInt8) (scr : Bool) (b : UInt8) : UInt8 := if sepB b && !hasB ign b then d else trn scr b
def spG (d : UInt8) (ign : List UInt8) (scr : Bool) : Option UInt8 → List UInt8 → List UInt8
  | _, [] => []
  | p, b :: l => (if brd p b l.head? then [d] else []) ++ cG d ign scr b :: spG d ign scr (some b) l
def ns (l : List UInt8) : List Int := l.map fun b => (b.toNat : Int)
theorem ns_snoc (l : List UInt8) (b : UInt8) : ns l ++ [(b.toNat : Int)] = ns (l ++ [b]) := by simp [ns]
theorem ns_len (l : List UInt8) : (ns l).length = l.length := by simp [ns]
theorem sep_low (b : UInt8) (h : sepB b = true) : lowB b = false ∧ capB b = false ∧ ∀ scr, trn scr b = b := by
  have := (cls b).2.2.2
  rw [h] at this
  simp at this
  refine ⟨this.1.2, this.1.1, fun scr => ?_⟩
  unfold trn
  rw [this.1.2, this.1.1]
  simp
theorem dl_j4 (T ign : ByteArray) (d : UInt8) (scr : Bool) (out : List UInt8) (i k : Nat) (x y : UInt8) (hx : T.data.toList[i]? = some x) (hT : T.size ≤ 2147483647) (hy : y = if sepB x && !hasB ign.data.toList x then d else x) (hout : out.length < 140737488355328) :
    spec_Delimited.j4 (k + 2) T (d.toNat : Int) ign scr (ns out) (i : Int) (y.toNat : Int) (T.size : Int) (i : Int) = spec_Delimited.l0 (k + 1) T (d.toNat : Int) ign scr (ns (out ++ [cG d ign.data.toList scr x])) (T.size : Int) ((i + 1 : Nat) : Int) := by
  have hi := (List.getElem?_eq_some_iff.1 hx).1
  rw [← Lib.size_eq] at hi
  have e2 : wrap64 ((i : Int) + 1) = ((i + 1 : Nat) : Int) := by rw [w64 _ (by omega)]; omega
  simp only [spec_Delimited.j4]
  rw [if_pos (by omega), if_pos (by omega), bt_at' T i x hx, low_f, up_f]
  simp only [Option.bind_some, turn_f, ns_len, e2]
  simp only [if_pos hout, ns_snoc]
  cases hs : sepB x with
  | true =>
    obtain ⟨h1, h2, h3⟩ := sep_low x hs
    have hc : cG d ign.data.toList scr x = y := by rw [hy]; unfold cG; rw [hs, h3]
    rw [h1, h2, if_neg (by decide), if_neg (by decide), hc]
  | false =>
    have hyx : y = x := by rw [hy, hs]; rfl
    have hc : cG d ign.data.toList scr x = trn scr x := by unfold cG; rw [hs]; rfl
    rw [hyx, hc]
    cases h1 : lowB x with
    | true => rw [if_pos rfl]
    | false =>
      cases h2 : capB x with
      | true => rw [if_neg (by decide), if_pos rfl]
      | false =>
        rw [if_neg (by decide), if_neg (by decide)]
        have : trn scr x = x := by unfold trn; rw [h1, h2]; simp
        rw [this]
theorem dl_j1 (T ign : ByteArray) (d : UInt8) (scr : Bool) (out : List UInt8) (i k : Nat) (x : UInt8) (hx : T.data.toList[i]? = some x) (hxa : x.toNat < 128) (hT : T.size ≤ 2147483647) (hI : ign.size ≤ 2147483647) (hk : ign.size + 3 ≤ k) (hout : out.length + 1 < 140737488355328) :
    spec_Delimited.j1 (k + 5) T (d.toNat : Int) ign scr (ns out) (i : Int) (x.toNat : Int) (T.size : Int) (i : Int) false =
      spec_Delimited.l0 (k + 1) T (d.toNat : Int) ign scr (ns (out ++ (if brd (prevAt T.data.toList i) x T.data.toList[i + 1]? then [d] else []) ++ [cG d ign.data.toList scr x])) (T.size : Int) ((i + 1 : Nat) : Int) := by
  have hb : spec_borders.f (k + 4) T (i : Int) = some (brd (prevAt T.data.toList i) x T.data.toList[i + 1]?) := bord_f (k + 1) T i x hT hx
  have hh : spec_holds.f (k + 3) ign (x.toNat : Int) = some (hasB ign.data.toList x) := holds_f ign x hxa hI _ (by omega)
  have j2 : ∀ o : List UInt8, o.length < 140737488355328 → spec_Delimited.j2 (k + 4) T (d.toNat : Int) ign scr (ns o) (i : Int) (x.toNat : Int) (T.size : Int) (i : Int) = spec_Delimited.l0 (k + 1) T (d.toNat : Int) ign scr (ns (o ++ [cG d ign.data.toList scr x])) (T.size : Int) ((i + 1 : Nat) : Int) := by
    intro o ho
    simp only [spec_Delimited.j2, parts_f, Option.bind_some]
    cases hs : sepB x with
    | true =>
      rw [if_pos rfl, hh]
      simp only [Option.bind_some, spec_Delimited.j3]
      cases hi : hasB ign.data.toList x with
      | true => rw [if_neg (by decide)]; exact dl_j4 T ign d scr o i k x x hx hT (by rw [hs, hi]; rfl) ho
      | false => rw [if_pos (by decide)]; exact dl_j4 T ign d scr o i k x d hx hT (by rw [hs, hi]; rfl) ho
    | false =>
      rw [if_neg (by decide)]
      simp only [spec_Delimited.j3]
      rw [if_neg (by decide)]
      exact dl_j4 T ign d scr o i k x x hx hT (by rw [hs]; rfl) ho
  rw [spec_Delimited.j1]
  rw [if_neg (by decide), hb]
  simp only [Option.bind_some]
  cases hbr : brd (prevAt T.data.toList i) x T.data.toList[i + 1]? with
  | true =>
    rw [if_pos rfl, if_pos (by rw [ns_len]; omega), ns_snoc, j2 _ (by simp; omega)]
    rfl
  | false =>
    rw [if_neg (by decide), j2 _ (by omega)]
    simp
theorem dl_loop (T ign : ByteArray) (d : UInt8) (scr : Bool) (hA : ∀ b ∈ T.data.toList, b.toNat < 128) (hT : T.size ≤ 2147483647) (hI : ign.size ≤ 2147483647) : ∀ (n i k : Nat) (out : List UInt8), T.size = i + n → ign.size + 5 * n + 10 ≤ k → out.length ≤ 2 * i →
    ∃ r, spec_Delimited.l0 k T (d.toNat : Int) ign scr (ns out) (T.size : Int) (i : Int) = some r ∧ (r.2 = 1 → r.1 = ⟨(out ++ spG d ign.data.toList scr (prevAt T.data.toList i) (T.data.toList.drop i)).toArray⟩ ∧ (ign.data.toList ≠ [] → ∀ c ∈ T.data.toList.drop i, lowB c = true ∨ sepB c = true))
  | 0, i, k, out, hn, hk, ho => by
    obtain ⟨k, rfl⟩ : ∃ m, k = m + 1 := ⟨k - 1, by omega⟩
    simp only [spec_Delimited.l0]
    rw [if_neg (by omega), List.drop_eq_nil_of_le (by rw [← Lib.size_eq]; omega)]
    refine ⟨_, rfl, fun _ => ⟨?_, fun _ c hc => by simp at hc⟩⟩
    simp [spG, ns, strOfNums]
    exact (List.map_congr_left (fun b _ => by simp)).trans (List.map_id _)
  | n + 1, i, k, out, hn, hk, ho => by
    obtain ⟨k, rfl⟩ : ∃ m, k = m + 6 := ⟨k - 6, by omega⟩
    have hil : i < T.data.toList.length := by rw [← Lib.size_eq]; omega
    obtain ⟨x, hx⟩ : ∃ x, T.data.toList[i]? = some x := ⟨_, List.getElem?_eq_getElem hil⟩
    obtain ⟨_, hx2⟩ := List.getElem?_eq_some_iff.1 hx
    have hxa := hA x (List.mem_of_getElem? hx)
    rw [spec_Delimited.l0]
    rw [if_pos (by omega), if_pos (by omega), if_pos (by omega), bt_at' T i x hx, low_f, parts_f]
    simp only [Option.bind_some]
    have good : (ign.data.toList ≠ [] → lowB x = true ∨ sepB x = true) → ∃ r, spec_Delimited.j1 (k + 5) T (d.toNat : Int) ign scr (ns out) (i : Int) (x.toNat : Int) (T.size : Int) (i : Int) false = some r ∧ (r.2 = 1 → r.1 = ⟨(out ++ spG d ign.data.toList scr (prevAt T.data.toList i) (T.data.toList.drop i)).toArray⟩ ∧ (ign.data.toList ≠ [] → ∀ c ∈ T.data.toList.drop i, lowB c = true ∨ sepB c = true)) := by
      intro hg
      rw [dl_j1 T ign d scr out i k x hx hxa hT hI (by omega) (by omega)]
      obtain ⟨r, hr, hp⟩ := dl_loop T ign d scr hA hT hI n (i + 1) (k + 1) (out ++ (if brd (prevAt T.data.toList i) x T.data.toList[i + 1]? then [d] else []) ++ [cG d ign.data.toList scr x]) (by omega) (by omega) (by
        simp only [List.length_append, List.length_singleton]
        split <;> simp <;> omega)
      refine ⟨r, hr, fun h1 => ?_⟩
      obtain ⟨q1, q2⟩ := hp h1
      have ed : T.data.toList.drop i = x :: T.data.toList.drop (i + 1) := by rw [List.drop_eq_getElem_cons hil, hx2]
      have ep : prevAt T.data.toList (i + 1) = some x := by unfold prevAt; rw [if_neg (by omega), Nat.add_sub_cancel, hx]
      refine ⟨?_, fun hne c hc => ?_⟩
      · rw [q1, ed, spG, ep, List.head?_drop]
        congr 2
        simp
      · rw [ed] at hc
        rcases List.mem_cons.1 hc with rfl | hc
        · exact hg hne
        · exact q2 hne c hc
    by_cases hie : ign.toList = []
    · rw [if_pos hie]
      exact good (fun hne => absurd (by rw [← Lib.toList_data]; exact hie) hne)
    · rw [if_neg hie]
      cases h1 : lowB x with
      | true => rw [if_pos rfl]; exact good (fun _ => .inl h1)
      | false =>
        rw [if_neg (by decide)]
        cases h2 : sepB x with
        | true => exact good (fun _ => .inr h2)
        | false =>
          rw [spec_Delimited.j1, if_pos (by decide)]
          exact ⟨_, rfl, fun h => by cases h⟩

/-! ### white space at both ends -/
theorem isSp_iff (x : UInt8) : Lib.isSp x = decide ((x.toNat : Int) = 32 ∨ (9 ≤ (x.toNat : Int) ∧ (x.toNat : Int) ≤ 13)) := by
  have h := byte_all (p := fun x => Lib.isSp x == decide ((x.toNat : Int) = 32 ∨ (9 ≤ (x.toNat : Int) ∧ (x.toNat : Int) ≤ 13))) (by decide +kernel) x
  exact eq_of_beq h
def ba (l : List UInt8) : ByteArray := ⟨l.toArray⟩
theorem ba_size (l : List UInt8) : (ba l).size = l.length := by rw [Lib.size_eq]; rfl
theorem ba_tail (x : UInt8) (l : List UInt8) : (ba (x :: l)).extract 1 (ba (x :: l)).size = ba l := by
  apply str_ext
  rw [Lib.extract_data, ba_size]
  show ((x :: l).drop 1).take _ = l
  simp
theorem ba_init (l : List UInt8) (x : UInt8) : (ba (l ++ [x])).extract 0 l.length = ba l := by
  apply str_ext
  rw [Lib.extract_data]
  show ((l ++ [x]).drop 0).take _ = l
  simp
theorem strip1 (k : Nat) : ∀ (a m : List UInt8), (∀ c ∈ a, Lib.isSp c = true) → (∀ c, m.head? = some c → Lib.isSp c = false) → spec_stripped.l1 (a.length + (k + 1)) (ba (a ++ m)) = spec_stripped.j2 k (ba m)
  | [], [], _, _ => by
    show spec_stripped.l1 (0 + (k + 1)) (ba []) = _
    rw [Nat.zero_add, spec_stripped.l1, if_neg (by rw [ba_size]; simp)]
  | [], x :: m, _, hm => by
    show spec_stripped.l1 (0 + (k + 1)) (ba (x :: m)) = _
    have hx := hm x rfl
    rw [isSp_iff] at hx
    have hx := of_decide_eq_false hx
    rw [Nat.zero_add, spec_stripped.l1, if_pos (by rw [ba_size]; simp), if_pos (by rw [ba_size]; simp)]
    rw [show bt (ba (x :: m)) 0 = (x.toNat : Int) from bt_at' (ba (x :: m)) 0 x rfl]
    rw [if_neg (fun h => hx (.inl h))]
    by_cases h9 : (x.toNat : Int) ≥ 9
    · rw [if_pos h9, if_neg (fun h => hx (.inr ⟨h9, h⟩))]
    · rw [if_neg h9]
  | x :: a, m, ha, hm => by
    have hx := ha x (by simp)
    rw [isSp_iff] at hx
    have hx := of_decide_eq_true hx
    have e : (x :: a).length + (k + 1) = (a.length + (k + 1)) + 1 := by simp; omega
    rw [e, List.cons_append, spec_stripped.l1, if_pos (by rw [ba_size]; simp; omega), if_pos (by rw [ba_size]; simp; omega)]
    rw [show bt (ba (x :: (a ++ m))) 0 = (x.toNat : Int) from bt_at' (ba (x :: (a ++ m))) 0 x rfl, ba_tail, strip1 k a m (fun c hc => ha c (by simp [hc])) hm, if_pos (show (1 : Int) ≤ ((ba (x :: (a ++ m))).size : Int) by rw [ba_size]; simp; omega)]
    by_cases h : (x.toNat : Int) = 32
    · rw [if_pos h]
    · obtain ⟨h9, h13⟩ := hx.resolve_left h
      rw [if_neg h, if_pos h9, if_pos h13]
theorem strip2 (k : Nat) (m : List UInt8) (hm : ∀ c, m.getLast? = some c → Lib.isSp c = false) : ∀ (n : Nat) (b : List UInt8), b.length = n → (m ++ b).length ≤ 2147483647 → (∀ c ∈ b, Lib.isSp c = true) → spec_stripped.l2 (n + (k + 1)) (ba (m ++ b)) = some (ba m, 1)
  | 0, b, hb, hle, _ => by
    have : b = [] := List.eq_nil_of_length_eq_zero hb
    subst this
    rw [List.append_nil, Nat.zero_add]
    rcases List.eq_nil_or_concat m with rfl | ⟨t, x, rfl⟩
    · rw [spec_stripped.l2, if_neg (by rw [ba_size]; simp)]
    · rw [List.concat_eq_append] at hm hle ⊢
      have hx := hm x (by simp)
      rw [isSp_iff] at hx
      have hx := of_decide_eq_false hx
      have hz : (ba (t ++ [x])).size = t.length + 1 := by rw [ba_size]; simp
      have e1 : wrap64 (((ba (t ++ [x])).size : Int) - 1) = (t.length : Int) := by rw [hz, w64 _ (by simp at hle; omega)]; omega
      rw [spec_stripped.l2, if_pos (by rw [hz]; omega), e1, if_pos (by omega), if_pos (by rw [hz]; omega)]
      rw [show bt (ba (t ++ [x])) (t.length : Int) = (x.toNat : Int) from bt_at' (ba (t ++ [x])) t.length x (by show (t ++ [x])[t.length]? = _; simp)]
      rw [if_neg (fun h => hx (.inl h))]
      by_cases h9 : (x.toNat : Int) ≥ 9
      · rw [if_pos h9, if_neg (fun h => hx (.inr ⟨h9, h⟩))]
      · rw [if_neg h9]
  | n + 1, b, hb, hle, hs => by
    rcases List.eq_nil_or_concat b with rfl | ⟨t, x, rfl⟩
    · simp at hb
    rw [List.concat_eq_append] at hb hle hs ⊢
    have hx := hs x (by simp)
    rw [isSp_iff] at hx
    have hx := of_decide_eq_true hx
    have hz : (ba (m ++ (t ++ [x]))).size = (m ++ t).length + 1 := by rw [ba_size]; simp; omega
    have e0 : m ++ (t ++ [x]) = (m ++ t) ++ [x] := by simp
    have e1 : wrap64 (((ba (m ++ (t ++ [x]))).size : Int) - 1) = ((m ++ t).length : Int) := by rw [hz, w64 _ (by simp at hle ⊢; omega)]; omega
    have ih := strip2 k m hm n t (by simpa using hb) (by simp at hle ⊢; omega) (fun c hc => hs c (by simp [hc]))
    rw [show n + 1 + (k + 1) = (n + (k + 1)) + 1 by omega, spec_stripped.l2, if_pos (by rw [hz]; omega), e1, if_pos (by omega), if_pos (by rw [hz]; omega)]
    rw [show bt (ba (m ++ (t ++ [x]))) ((m ++ t).length : Int) = (x.toNat : Int) from bt_at' (ba (m ++ (t ++ [x]))) (m ++ t).length x (by show (m ++ (t ++ [x]))[(m ++ t).length]? = _; rw [e0]; simp)]
    have e3 : (ba (m ++ (t ++ [x]))).extract 0 ((m ++ t).length : Int).toNat = ba (m ++ t) := by rw [e0]; exact ba_init (m ++ t) x
    rw [e3, ih, if_pos (show ((m ++ t).length : Int) ≤ ((ba (m ++ (t ++ [x]))).size : Int) by rw [hz]; omega)]
    by_cases h : (x.toNat : Int) = 32
    · rw [if_pos h]
    · obtain ⟨h9, h13⟩ := hx.resolve_left h
      rw [if_neg h, if_pos h9, if_pos h13]
theorem strip0 (s : ByteArray) (hs : s.size ≤ 2147483647) : ∀ (n i k : Nat), s.size = i + n → n < k →
    ((∃ b ∈ s.data.toList.drop i, 128 ≤ b.toNat) ∧ spec_stripped.l0 k s (s.size : Int) (i : Int) = some (⟨#[]⟩, 2)) ∨ ((∀ b ∈ s.data.toList.drop i, b.toNat < 128) ∧ spec_stripped.l0 k s (s.size : Int) (i : Int) = spec_stripped.l1 (k - n - 1) s)
  | 0, i, k, hn, hk => by
    obtain ⟨k, rfl⟩ : ∃ m, k = m + 1 := ⟨k - 1, by omega⟩
    right
    rw [spec_stripped.l0, if_neg (by omega), List.drop_eq_nil_of_le (by rw [← Lib.size_eq]; omega)]
    exact ⟨fun b hb => by simp at hb, rfl⟩
  | n + 1, i, k, hn, hk => by
    obtain ⟨k, rfl⟩ : ∃ m, k = m + 1 := ⟨k - 1, by omega⟩
    have hil : i < s.data.toList.length := by rw [← Lib.size_eq]; omega
    obtain ⟨x, hx⟩ : ∃ x, s.data.toList[i]? = some x := ⟨_, List.getElem?_eq_getElem hil⟩
    obtain ⟨_, hx2⟩ := List.getElem?_eq_some_iff.1 hx
    rw [spec_stripped.l0, if_pos (by omega), if_pos (by omega), if_pos (by omega), bt_at' s i x hx, w64 _ (by omega), show ((i : Int) + 1) = ((i + 1 : Nat) : Int) by omega, List.drop_eq_getElem_cons hil, hx2]
    by_cases h : (x.toNat : Int) ≥ 128
    · rw [if_pos h]
      exact .inl ⟨⟨x, by simp, by omega⟩, rfl⟩
    · rw [if_neg h]
      rcases strip0 s hs n (i + 1) k (by omega) (by omega) with ⟨⟨b, hb, h1⟩, h2⟩ | ⟨h1, h2⟩
      · exact .inl ⟨⟨b, by simp [hb], h1⟩, h2⟩
      · refine .inr ⟨fun b hb => ?_, ?_⟩
        · rcases List.mem_cons.1 hb with rfl | hb
          · omega
          · exact h1 b hb
        · rw [h2]
          congr 1
          omega
/-- what 'stripped' answers -/
theorem strip_f (s : ByteArray) (hs : s.size ≤ 2147483647) (k : Nat) (hk : 3 * s.size + 10 ≤ k) :
    spec_stripped.f k s = some (⟨#[]⟩, 2) ∨ (Asc s ∧ spec_stripped.f k s = some (ba (Lib.trimSpaceD s.data.toList), 1)) := by
  unfold spec_stripped.f
  rcases strip0 s hs s.size 0 k (by omega) (by omega) with ⟨_, h⟩ | ⟨h1, h2⟩
  · exact .inl h
  · refine .inr ⟨fun b hb => h1 b (by simpa using hb), ?_⟩
    have hA : ∀ c ∈ s.data.toList, c.toNat < 128 := by simpa using h1
    obtain ⟨ht, a, b, hl, ha, hb⟩ := trim_ascii s.data.toList hA
    have hsz : s.size = a.length + ((Lib.trimSpaceD s.data.toList).length + b.length) := by
      rw [Lib.size_eq]
      conv => lhs; rw [hl]
      simp
    generalize Lib.trimSpaceD s.data.toList = T at hl ht hsz
    have e : spec_stripped.l0 k s (s.size : Int) 0 = _ := h2
    rw [e]
    have hs' : s = ba (a ++ (T ++ b)) := by apply str_ext; rw [hl]; rfl
    -- the blanks behind an empty text stand ahead of it
    obtain ⟨a, b, hl, ha, hb, hTb, hsz⟩ : ∃ a b, s = ba (a ++ (T ++ b)) ∧ (∀ c ∈ a, Lib.isSp c = true) ∧ (∀ c ∈ b, Lib.isSp c = true) ∧ (T = [] → b = []) ∧ s.size = a.length + (T.length + b.length) := by
      by_cases hT : T = []
      · subst hT
        refine ⟨a ++ b, [], by rw [hs']; simp, ?_, by simp, fun _ => rfl, by simp at hsz ⊢; omega⟩
        intro c hc
        rcases List.mem_append.1 hc with hc | hc
        · exact ha c hc
        · exact hb c hc
      · exact ⟨a, b, hs', ha, hb, fun h => absurd h hT, hsz⟩
    have hhead : ∀ c, (T ++ b).head? = some c → Lib.isSp c = false := by
      intro c hc
      cases T with
      | nil => rw [hTb rfl] at hc; simp at hc
      | cons x t => simp at hc; subst hc; exact ht.2.1 x rfl
    obtain ⟨q, hq⟩ : ∃ q, k - s.size - 1 = a.length + ((b.length + (q + 1) + 1) + 1) := ⟨k - s.size - 1 - a.length - b.length - 3, by omega⟩
    rw [hq, hl, strip1 _ a (T ++ b) ha hhead, spec_stripped.j2]
    exact strip2 q T ht.2.2 b.length b rfl (by simp; omega) hb
theorem spG_nil (d : UInt8) (scr : Bool) : ∀ (l : List UInt8) (p : Option UInt8), spG d [] scr p l = spF d scr p l
  | [], _ => rfl
  | b :: l, p => by
    rw [spG, spF, spG_nil d scr l (some b)]
    congr 2
    unfold cG cF
    rw [hasB_nil]
    simp
theorem brd_plain (p : Option UInt8) (b : UInt8) (nx : Option UInt8) (hp : ∀ a, p = some a → lowB a = true ∨ sepB a = true) (hb : lowB b = true ∨ sepB b = true) : brd p b nx = false := by
  have kk : ∀ x : UInt8, (lowB x = true ∨ sepB x = true) → capB x = false ∧ numB x = false := by
    intro x hx
    obtain ⟨h1, h2, h3, h4⟩ := cls x
    rcases hx with h | h
    · rw [h] at h1 h3; simp at h1 h3; exact ⟨h1, h3⟩
    · rw [h] at h4; simp at h4; exact ⟨h4.1.1, h4.2⟩
  obtain ⟨b1, b2⟩ := kk b hb
  cases p with
  | none => rfl
  | some a =>
    obtain ⟨a1, a2⟩ := kk a (hp a rfl)
    simp [brd, a1, a2, b1, b2]
theorem bord_plain (b n : UInt8) (hb : lowB b = true ∨ sepB b = true) (hn : lowB n = true ∨ sepB n = true) : bord b n = false := by
  have kk : ∀ x : UInt8, (lowB x = true ∨ sepB x = true) → capB x = false ∧ numB x = false := by
    intro x hx
    obtain ⟨h1, h2, h3, h4⟩ := cls x
    rcases hx with h | h
    · rw [h] at h1 h3; simp at h1 h3; exact ⟨h1, h3⟩
    · rw [h] at h4; simp at h4; exact ⟨h4.1.1, h4.2⟩
  obtain ⟨b1, b2⟩ := kk b hb
  obtain ⟨n1, n2⟩ := kk n hn
  simp [bord, b1, b2, n1, n2]
theorem spG_plain (d : UInt8) (ign : List UInt8) (scr : Bool) : ∀ (l : List UInt8) (p : Option UInt8), (∀ a, p = some a → lowB a = true ∨ sepB a = true) → (∀ c ∈ l, lowB c = true ∨ sepB c = true) → spG d ign scr p l = dgo d ign scr p l
  | [], _, _, _ => rfl
  | b :: l, p, hp, hl => by
    have hb := hl b (by simp)
    rw [spG, dgo, spG_plain d ign scr l (some b) (fun a ha => by cases ha; exact hb) (fun c hc => hl c (by simp [hc])), brd_plain p b _ hp hb]
    have ht : tailO d ign (trn scr b) = [cG d ign scr b] := by
      unfold tailO cG
      rw [sep_trn]
      cases hs : sepB b with
      | true => rw [(sep_low b hs).2.2]; cases hasB ign b <;> rfl
      | false => rfl
    cases l with
    | nil => simp [outB, ht]
    | cons n l =>
      have := bord_plain b n hb (hl n (by simp))
      simp [outB, this, ht]
/-- the reference, as far as it says something -/
theorem delim_f (s ign : ByteArray) (d : UInt8) (scr : Bool) (hs : s.size ≤ 2147483647) (hI : ign.size ≤ 2147483647) :
    ∃ k r, spec_Delimited.f k s (d.toNat : Int) ign scr = some r ∧ (r.2 = 1 → r.1 = delS d ign scr s) := by
  refine ⟨ign.size + 5 * s.size + 10 + 3 * s.size + 10, ?_⟩
  unfold spec_Delimited.f
  rcases strip_f s hs (ign.size + 5 * s.size + 10 + 3 * s.size + 10) (by omega) with h | ⟨hA, h⟩
  · rw [h]
    exact ⟨_, rfl, fun h => by cases h⟩
  · rw [h]
    simp only [Option.bind_some]
    rw [if_pos trivial]
    have hle := trim_le s.data.toList
    rw [← Lib.size_eq] at hle
    have hTz : (ba (Lib.trimSpaceD s.data.toList)).size ≤ s.size := by rw [ba_size]; exact hle
    obtain ⟨ht, _⟩ := trim_ascii s.data.toList hA
    obtain ⟨r, hr, hp⟩ := dl_loop (ba (Lib.trimSpaceD s.data.toList)) ign d scr ht.1 (by omega) hI (ba (Lib.trimSpaceD s.data.toList)).size 0 (ign.size + 5 * s.size + 10 + 3 * s.size + 10) [] (by omega) (by omega) (by simp)
    refine ⟨r, hr, fun h1 => ?_⟩
    obtain ⟨q1, q2⟩ := hp h1
    rw [q1]
    unfold delS
    congr 2
    show [] ++ spG d ign.data.toList scr none ((Lib.trimSpaceD s.data.toList).drop 0) = _
    rw [List.nil_append, List.drop_zero]
    by_cases hi : ign.data.toList = []
    · rw [hi, spG_nil, dgo_nil]
    · exact spG_plain d _ scr _ none (fun a ha => by cases ha) (fun c hc => q2 hi c (by rw [List.drop_zero]; exact hc))
end Go.Proofs.YtpbehdlgmpmkaaaDoor
