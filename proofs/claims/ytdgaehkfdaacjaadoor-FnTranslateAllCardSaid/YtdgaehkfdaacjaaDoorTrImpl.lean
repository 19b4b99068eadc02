/- The package's functions over a translator, and the thin package's. -/
import Derived.Test.YtdgaehkfdaacjaaDoorTrTrans
set_option linter.unusedVariables false
namespace Go.Proofs.YtdgaehkfdaacjaaDoor
open Go.RowKit Plain

/-- block 'pb' is the translator of two patterns -/
def TrIs (f t : List UInt8) (pb : Nat) (w : World) : Prop :=
  (f ≠ [] ∧ f.length ≤ 2000 ∧ ∃ base vs vq vm vr, TrQ base pb vs (ntrL f t).1 (flL f t) vq vm vr w) ∨
  (f = [] ∧ w.heap[pb]? = some (.cells #[.pointer none, .map none, .slice none 0 0, .int .i32 0, .bool false, .bool false, .bool false] 58 (0, 0)))
theorem TrIs.below {f t : List UInt8} {pb : Nat} {w w' : World} (h : TrIs f t pb w) (hb : Below w.heap.size w w') : TrIs f t pb w' := by
  rcases h with ⟨h1, h2, base, vs, vq, vm, vr, h3⟩ | ⟨h1, h2⟩
  · exact .inl ⟨h1, h2, base, vs, vq, vm, vr, h3.keep (p := fun _ => True) (Keep.of_below hb) trivial (fun _ _ => trivial)⟩
  · exact .inr ⟨h1, (hb.block pb (lt_of_block h2)).trans h2⟩
theorem TrIs.lt {f t : List UInt8} {pb : Nat} {w : World} (h : TrIs f t pb w) : pb < w.heap.size := by
  rcases h with ⟨h1, h2, base, vs, vq, vm, vr, h3⟩ | ⟨h1, h2⟩
  · exact lt_of_block h3.blk
  · exact lt_of_block h2
def NewC (f t : List UInt8) (w : World) (e : Ending) (w' : World) : Prop := ∃ pb, e = .returned (.pointer (some ⟨pb, 0, none⟩)) ∧ TrIs f t pb w' ∧ Below w.heap.size w w'
theorem new_c (f t : ByteArray) (w : World) (hT : Tabs w) (hf : f.size ≤ 2000) (ht : t.size ≤ 2147483647) :
    Calls Tryd.prog 27 #[.string f, .string t] w (NewC f.data.toList t.data.toList w) := by
  by_cases h0 : f.size = 0
  · refine (newT_nil f t w h0).mono ?_
    rintro e w' ⟨pb, rfl, h1, h2, h3⟩
    exact ⟨pb, rfl, .inr ⟨List.eq_nil_of_length_eq_zero (by rw [← Lib.size_eq]; exact h0), h3⟩, h2⟩
  · refine (newT_ne f t w hT (by omega) hf ht).mono ?_
    rintro e w' ⟨pb, base, vs, vq, vm, vr, rfl, h1, h2, h3⟩
    exact ⟨pb, rfl, .inl ⟨fun e => h0 (by rw [Lib.size_eq, e]; rfl), by rw [← Lib.size_eq]; exact hf, base, vs, vq, vm, vr, h1⟩, h3⟩
/-- what becomes of a text -/
def trB (f t s : List UInt8) : List UInt8 := if f = [] then s else trL (ntrL f t).1 (flL f t) s
def trS (f t s : ByteArray) : ByteArray := ⟨(trB f.data.toList t.data.toList s.data.toList).toArray⟩
theorem trS_nil (f t s : ByteArray) (h : f.data.toList = []) : trS f t s = s := by
  unfold trS trB
  rw [if_pos h]
theorem flL_bd (f t : List UInt8) (hf : f.length ≤ 2000) : -1 ≤ (flL f t).1 ∧ (flL f t).1 ≤ 1114111 ∧ (flL f t).2.2.2 = true := by
  obtain ⟨h1, h2, h3, h4⟩ := ntrL_ok f t hf
  unfold flL
  refine ⟨?_, ?_, rfl⟩
  · simp only; split <;> omega
  · simp only; split <;> omega
set_option maxRecDepth 100000 in
theorem translate_nil (pb : Nat) (s : ByteArray) (w : World) (h : w.heap[pb]? = some (.cells #[.pointer none, .map none, .slice none 0 0, .int .i32 0, .bool false, .bool false, .bool false] 58 (0, 0))) :
    Calls Tryd.prog 37 #[.pointer (some ⟨pb, 0, none⟩), .string s] w fun e w' => e = .returned (.string s) ∧ w' = w := by
  have c6 : w.cell? ⟨pb, 6, none⟩ = some (.bool false) := by simp [World.cell?, h]
  clear h
  go_enter Tryd.func37, Tryd.ntmps37
  go_wp2
  go_ret
  exact ⟨rfl, rfl⟩
theorem translate_c {f t : ByteArray} {pb : Nat} {w : World} (h : TrIs f.data.toList t.data.toList pb w) (s : ByteArray) (hs : s.size ≤ 2147483647) (hT : Tabs w) :
    Calls Tryd.prog 37 #[.pointer (some ⟨pb, 0, none⟩), .string s] w fun e w' => e = .returned (.string (trS f t s)) ∧ Below w.heap.size w w' := by
  rcases h with ⟨h1, h2, base, vs, vq, vm, vr, h3⟩ | ⟨h1, h2⟩
  · obtain ⟨k1, k2, k3, k4⟩ := ntrL_ok f.data.toList t.data.toList h2
    obtain ⟨b1, b2, b3⟩ := flL_bd f.data.toList t.data.toList h2
    have := translate_any base pb vs _ _ vq vm vr s w h3 k1 b1 b2 k4 hs hT b3
    unfold trS trB
    rw [if_neg h1]
    exact this
  · rw [trS_nil f t s h1]
    exact (translate_nil pb s w h2).mono fun e w' ⟨he, hw⟩ => ⟨he, hw ▸ Below.refl _ _⟩
theorem xTranslate (s f t : ByteArray) (w : World) (hs : s.size ≤ 2147483647) (hf : f.size ≤ 2000) (ht : t.size ≤ 2147483647) (hT : Tabs w) :
    Calls Tryd.prog 33 #[.string s, .string f, .string t] w fun e w' => e = .returned (.string (trS f t s)) ∧ Below w.heap.size w w' := by
  have HN := Lib.hid (new_c f t w hT hf ht)
  go_enter Tryd.func33, Tryd.ntmps33
  go_wp2_with (go_at_call 27; with_reducible refine HN.out.mono ?_)
  rintro e w1 ⟨pb, rfl, hp, hb1⟩
  have HP := Lib.hid hp
  have hT1 := hT.below hb1
  clear hp
  dsimp only
  go_wp2_with (go_at_call 37; (with_reducible refine (translate_c HP.out s hs hT1).mono ?_); rintro e w2 ⟨rfl, hb2⟩; dsimp only)
  go_ret
  exact ⟨rfl, bthen hb1 hb2⟩
theorem iTranslate (s f t : ByteArray) (w : World) (hs : s.size ≤ 2147483647) (hf : f.size ≤ 2000) (ht : t.size ≤ 2147483647) (hT : Tabs w) :
    Calls Tryd.prog 18 #[.string s, .string f, .string t] w fun e w' => e = .returned (.string (trS f t s)) ∧ Below w.heap.size w w' := by
  have HN := Lib.hid (xTranslate s f t w hs hf ht hT)
  go_enter Tryd.func18, Tryd.ntmps18
  go_wp2_with (go_at_call 33; (with_reducible refine HN.out.mono ?_); rintro e w2 ⟨rfl, hb2⟩; dsimp only)
  go_ret
  exact ⟨rfl, hb2⟩
def nilS : ByteArray := ⟨#[]⟩
theorem xDelete (s f : ByteArray) (w : World) (hs : s.size ≤ 2147483647) (hf : f.size ≤ 2000) (hT : Tabs w) :
    Calls Tryd.prog 32 #[.string s, .string f] w fun e w' => e = .returned (.string (trS f nilS s)) ∧ Below w.heap.size w w' := by
  have HN : Hid (Calls Tryd.prog 27 #[.string f, .string ⟨#[]⟩] w (NewC f.data.toList nilS.data.toList w)) := Lib.hid (new_c f nilS w hT hf (by decide))
  go_enter Tryd.func32, Tryd.ntmps32
  go_wp2_with (go_at_call 27; with_reducible refine HN.out.mono ?_)
  rintro e w1 ⟨pb, rfl, hp, hb1⟩
  have HP := Lib.hid hp
  have hT1 := hT.below hb1
  clear hp
  dsimp only
  go_wp2_with (go_at_call 37; (with_reducible refine (translate_c HP.out s hs hT1).mono ?_); rintro e w2 ⟨rfl, hb2⟩; dsimp only)
  go_ret
  exact ⟨rfl, bthen hb1 hb2⟩
theorem iDelete (s f : ByteArray) (w : World) (hs : s.size ≤ 2147483647) (hf : f.size ≤ 2000) (hT : Tabs w) :
    Calls Tryd.prog 16 #[.string s, .string f] w fun e w' => e = .returned (.string (trS f nilS s)) ∧ Below w.heap.size w w' := by
  have HN := Lib.hid (xDelete s f w hs hf hT)
  go_enter Tryd.func16, Tryd.ntmps16
  go_wp2_with (go_at_call 32; (with_reducible refine HN.out.mono ?_); rintro e w2 ⟨rfl, hb2⟩; dsimp only)
  go_ret
  exact ⟨rfl, hb2⟩
/-- how many characters of a text match -/
def cntL (d : TD) (fl : Int × Bool × Bool × Bool) (l : List UInt8) : Nat := ((segs l).filter fun c => (trR d fl (runeOf c)).2.1).length
def cntB (f s : List UInt8) : Nat := if f = [] then 0 else cntL (ntrL f []).1 (flL f []) s
theorem trRune_is {f t : List UInt8} {pb : Nat} {w : World} (hf : f ≠ []) (h : TrIs f t pb w) (r : Nat) (hr : r ≤ 1114111) (x : Int) (mt dl : Bool) (hx : trR (ntrL f t).1 (flL f t) r = (x, mt, dl)) :
    Calls Tryd.prog 49 #[.pointer (some ⟨pb, 0, none⟩), .int .i32 (r : Int)] w fun e w' => e = .returned (.tuple #[.int .i32 x, .bool mt, .bool dl]) ∧ Below w.heap.size w w' := by
  rcases h with ⟨h1, h2, base, vs, vq, vm, vr, h3⟩ | ⟨h1, h2⟩
  · obtain ⟨k1, k2, k3, k4⟩ := ntrL_ok f t h2
    exact trRune_c h3 k1 r hr k4 x mt dl hx
  · exact absurd h1 hf
theorem tRune_is {f t : List UInt8} {pb : Nat} {w : World} (hf : f ≠ []) (h : TrIs f t pb w) (r : Nat) (hr : r ≤ 1114111) (x : Int) (mt dl : Bool) (hx : trR (ntrL f t).1 (flL f t) r = (x, mt, dl)) :
    Calls Tryd.prog 44 #[.pointer (some ⟨pb, 0, none⟩), .int .i32 (r : Int)] w fun e w' => e = .returned (.tuple #[.int .i32 x, .bool mt]) ∧ Below w.heap.size w w' := by
  have HN := Lib.hid (trRune_is hf h r hr x mt dl hx)
  clear h hx
  go_enter Tryd.func44, Tryd.ntmps44
  go_wp2_with (go_at_call 49; (with_reducible refine HN.out.mono ?_); rintro e w2 ⟨rfl, hb2⟩; dsimp only)
  go_ret2
  exact ⟨rfl, hb2⟩
theorem cntL_step (d : TD) (fl : Int × Bool × Bool × Bool) (t : ByteArray) (R K : Nat) (h : Head t R K) : cntL d fl t.data.toList = (if (trR d fl R).2.1 = true then 1 else 0) + cntL d fl (t.extract K t.size).data.toList := by
  unfold cntL
  rw [segs_rest t R K h, List.filter_cons, ← h.run]
  split <;> simp <;> omega
theorem cntL_le (d : TD) (fl : Int × Bool × Bool × Bool) (l : List UInt8) : cntL d fl l ≤ l.length := by
  unfold cntL
  exact Nat.le_trans (List.length_filter_le _ _) (segs_length_le l)
set_option maxHeartbeats 4000000 in
set_option maxRecDepth 100000 in
theorem xCount (s f : ByteArray) (w : World) (hs : s.size ≤ 2147483647) (hf : f.size ≤ 2000) (hT : Tabs w) :
    Calls Tryd.prog 38 #[.string s, .string f] w fun e w' => e = .returned (.int .i64 (cntB f.data.toList s.data.toList : Nat)) ∧ Below w.heap.size w w' := by
  by_cases hf0 : f.data.toList = []
  · have hfe : f.toList.isEmpty = true := by rw [ByteArray.toList_eq, hf0]; rfl
    have hc : cntB f.data.toList s.data.toList = 0 := by unfold cntB; rw [if_pos hf0]
    rw [hc]
    clear hf0 hc
    go_enter Tryd.func38, Tryd.ntmps38
    go_wp2
    go_ret
    exact ⟨rfl, Below.refl _ _⟩
  have hfe : f.toList.isEmpty = false := by
    rw [ByteArray.toList_eq]
    cases h : f.data.toList with
    | nil => exact absurd h hf0
    | cons a l => rfl
  have hcb : cntB f.data.toList s.data.toList = cntL (ntrL f.data.toList []).1 (flL f.data.toList []) s.data.toList := by unfold cntB; rw [if_neg hf0]
  rw [hcb]
  by_cases hs0 : s.data.toList = []
  · have hse : s.toList.isEmpty = true := by rw [ByteArray.toList_eq, hs0]; rfl
    have hc : cntL (ntrL f.data.toList []).1 (flL f.data.toList []) s.data.toList = 0 := by rw [hs0]; rfl
    rw [hc]
    clear hs0 hc hcb
    go_enter Tryd.func38, Tryd.ntmps38
    go_wp2
    go_ret
    exact ⟨rfl, Below.refl _ _⟩
  have hse : s.toList.isEmpty = false := by
    rw [ByteArray.toList_eq]
    cases h : s.data.toList with
    | nil => exact absurd h hs0
    | cons a l => rfl
  have HN : Hid (Calls Tryd.prog 27 #[.string f, .string ⟨#[]⟩] w (NewC f.data.toList [] w)) := Lib.hid (new_c f nilS w hT hf (by decide))
  have HF0 := Lib.hid hf0
  obtain ⟨Z, hZ⟩ : ∃ Z, cntL (ntrL f.data.toList []).1 (flL f.data.toList []) s.data.toList = Z := ⟨_, rfl⟩
  have hZl := cntL_le (ntrL f.data.toList []).1 (flL f.data.toList []) s.data.toList
  rw [← Lib.size_eq] at hZl
  rw [hZ] at hZl ⊢
  have HZ := Lib.hid hZ
  clear hZ hcb hs0 hf0
  go_enter Tryd.func38, Tryd.ntmps38
  go_wp2_with (go_at_call 27; with_reducible refine HN.out.mono ?_)
  rintro e w0 ⟨pb, rfl, hp, hb0⟩
  have HP := Lib.hid hp
  have hT0 := hT.below hb0
  have HB0 := Lib.hid hb0
  clear hp hb0
  dsimp only
  go_wp2_with fail
  go_loopw [0, 9] (fun sv cv wr => ∃ (t : ByteArray) (n : Nat), sv = .string t ∧ cv = .int .i64 n ∧ n + cntL (ntrL f.data.toList []).1 (flL f.data.toList []) t.data.toList = Z ∧ t.size ≤ s.size ∧ Below w0.heap.size w0 wr) (fun sv _ _ => match sv with | .string t => t.size | _ => 0)
  case atStart => exact ⟨s, 0, rfl, rfl, by rw [Nat.zero_add]; exact HZ.out, Nat.le_refl _, Below.refl _ _⟩
  case round =>
    obtain ⟨t, n, rfl, rfl, hn, hts, hbw⟩ := hrel
    have hTr := hT0.below hbw
    have hnZ : n ≤ Z := by omega
    by_cases ht0 : 0 < t.size
    · have htz : (0 : Int) < (t.size : Int) := by omega
      obtain ⟨R, K, hh⟩ := head_of t ht0
      have HH := Lib.hid hh
      have hR1 : R ≤ 1114111 := hh.rune
      have hK1 : 1 ≤ K := hh.pos
      have hK2 : K ≤ t.size := hh.le
      obtain ⟨x, mt, dl, hx⟩ : ∃ x mt dl, trR (ntrL f.data.toList []).1 (flL f.data.toList []) R = (x, mt, dl) := ⟨_, _, _, rfl⟩
      have hst := cntL_step (ntrL f.data.toList []).1 (flL f.data.toList []) t R K hh
      rw [hx] at hst
      dsimp only at hst
      rw [hst] at hn
      have HRS := Lib.hid (rest_of t K).2
      have HTR := Lib.hid (fun w' (hb : Below wr.heap.size wr w') => tRune_is HF0.out ((HP.out.below hbw).below hb) R hR1 x mt dl hx)
      clear hx hst hh
      cases mt with
      | true =>
        rw [if_pos rfl] at hn
        have HNN := Lib.hid hn
        have hn1 : n + 1 ≤ Z := by omega
        clear hn
        go_wp2_with (go_at_call 41; (with_reducible refine (decode_any t _ hTr R K HH).mono ?_); rintro e w1 ⟨rfl, hb1⟩; dsimp only)
        go_wp2_with (go_at_call 44; (with_reducible refine (HTR.out _ hb1).mono ?_); rintro e w2 ⟨rfl, hb2⟩; dsimp only)
        go_wp2
        go_roundw
        case rel => exact ⟨_, n + 1, rfl, by go_num, by have := HNN.out; omega, by rw [HRS.out]; omega, (hbw.trans (hb1.mono hbw.size)).trans (hb2.mono (Nat.le_trans hbw.size hb1.size))⟩
        case measure =>
          have hrs := HRS.out
          simp only [hrs]
          omega
      | false =>
        rw [if_neg (by simp)] at hn
        have HNN := Lib.hid hn
        clear hn
        go_wp2_with (go_at_call 41; (with_reducible refine (decode_any t _ hTr R K HH).mono ?_); rintro e w1 ⟨rfl, hb1⟩; dsimp only)
        go_wp2_with (go_at_call 44; (with_reducible refine (HTR.out _ hb1).mono ?_); rintro e w2 ⟨rfl, hb2⟩; dsimp only)
        go_wp2
        go_roundw
        case rel => exact ⟨_, n, rfl, rfl, by have := HNN.out; omega, by rw [HRS.out]; omega, (hbw.trans (hb1.mono hbw.size)).trans (hb2.mono (Nat.le_trans hbw.size hb1.size))⟩
        case measure =>
          have hrs := HRS.out
          simp only [hrs]
          omega
    · have htz : ¬ (0 : Int) < (t.size : Int) := by omega
      have htn : t.data.toList = [] := List.eq_nil_of_length_eq_zero (by rw [← Lib.size_eq]; omega)
      have hfin : Hid (n = Z) := Lib.hid (by rw [htn] at hn; exact hn)
      clear hn htn
      go_wp2
      go_ret
      exact ⟨ret_int (by rw [hfin.out]), bthen HB0.out hbw⟩
theorem iCount (s f : ByteArray) (w : World) (hs : s.size ≤ 2147483647) (hf : f.size ≤ 2000) (hT : Tabs w) :
    Calls Tryd.prog 26 #[.string s, .string f] w fun e w' => e = .returned (.int .i64 (cntB f.data.toList s.data.toList : Nat)) ∧ Below w.heap.size w w' := by
  have HN := Lib.hid (xCount s f w hs hf hT)
  generalize cntB f.data.toList s.data.toList = Z at HN ⊢
  go_enter Tryd.func26, Tryd.ntmps26
  go_wp2_with (go_at_call 38; (with_reducible refine HN.out.mono ?_); rintro e w2 ⟨rfl, hb2⟩; dsimp only)
  go_ret
  exact ⟨rfl, hb2⟩
end Go.Proofs.YtdgaehkfdaacjaaDoor
