/- The walk of the law FnTextSays. -/
import Derived.Test.YtobcoplfniojkaaDoorSRev
import Derived.Test.YtobcoplfniojkaaDoorSIns
import Derived.Test.YtobcoplfniojkaaDoorSArr3
import Derived.Test.YtobcoplfniojkaaDoorFew
set_option linter.unusedVariables false
namespace Go.Proofs.YtobcoplfniojkaaDoor
open Go.RowKit Plain

theorem ts_i64 {x : Int} (h : (Lit.int .i64 x).wf = true) : -9223372036854775808 ≤ x ∧ x ≤ 9223372036854775807 := by simpa [Lit.wf, IntKind.min, IntKind.max, IntKind.signed, IntKind.bits] using h
theorem ts_few (l : List ByteArray) (n : Nat) (hn : l.length = n) (w : World) (hl : n ≤ 1000) (hs : n + sumSz l ≤ 4611686018427387904) (b : Bool) (hb : decide (n + sumSz l ≤ 400) = b) :
    Calls Tryd.prog 25 #[.slice (some ⟨w.heap.size, 0, none⟩) n n] (w.alloc (.cells (l.map Value.string).toArray 9)) fun e w' => e = .returned (.bool b) ∧ w.alloc (.cells (l.map Value.string).toArray 9) = w' :=
  few_any w.heap.size n n l hn _ (rowS_new w l _) hl hs b hb
set_option maxRecDepth 100000 in
theorem ts_wide (n : Int) (b : Bool) (hb : decide (2000 < n) = b) (w : World) : Calls Tryd.prog 20 #[.int .i64 n] w fun e w' => e = .returned (.bool b) ∧ w = w' := by
  go_enter Tryd.func20, Tryd.ntmps20
  go_wp2
  go_ret
  exact ⟨rfl, rfl⟩
theorem told_gen (g z : ByteArray) (x : Int) (h : x = 1 → z = g) (w : World) : Calls Tryd.prog 34 #[.string g, .string z, .int .i64 x] w fun e w' => e = .returned (.bool true) ∧ w = w' := by
  by_cases hx : x = 1
  · obtain rfl := h hx
    subst hx
    exact told_same _ w
  · exact told_open g z x hx w
/-- an answer of the reference: open, or the text -/
def TA (r : ByteArray) (w : World) (e : Ending) (w' : World) : Prop := (∃ (z : ByteArray) (x : Int), e = .returned (.tuple #[.string z, .int .i64 x]) ∧ (x = 1 → z = r)) ∧ Below w.heap.size w w'
theorem ta_of {r : ByteArray} {v : Prop} {w w' : World} {e : Ending} (h : SAns r v e ∧ Below w.heap.size w w') : TA r w e w' := by
  rcases h with ⟨⟨z, h⟩ | ⟨h, _⟩, hb⟩
  · exact ⟨⟨z, 2, h, fun y => by omega⟩, hb⟩
  · exact ⟨⟨r, 1, h, fun _ => rfl⟩, hb⟩
def TC (r : ByteArray) (bad : Bool) (w : World) (e : Ending) (w' : World) : Prop := (∃ (z : ByteArray) (x : Int), e = .returned (.tuple #[.string z, .int .i64 x]) ∧ (x = 2 ∨ x = 0 ∧ bad = true ∨ x = 1 ∧ bad = false ∧ z = r)) ∧ Below w.heap.size w w'
theorem tc_of {r : ByteArray} {bad : Bool} {v : Prop} {w w' : World} {e : Ending} (h : CAns r bad v e ∧ Below w.heap.size w w') : TC r bad w e w' := by
  rcases h with ⟨⟨z, h⟩ | ⟨hb1, ⟨z, h⟩, _⟩ | ⟨hb1, h, _⟩, hb⟩
  · exact ⟨⟨z, 2, h, .inl rfl⟩, hb⟩
  · exact ⟨⟨z, 0, h, .inr (.inl ⟨rfl, hb1⟩)⟩, hb⟩
  · exact ⟨⟨r, 1, h, .inr (.inr ⟨rfl, hb1, rfl⟩)⟩, hb⟩
def IC (r : ByteArray) (bad : Bool) (w : World) (e : Ending) (w' : World) : Prop := (∃ (z : ByteArray) (is : Bool), e = .returned (.tuple #[.string z, .bool is]) ∧ is = (!bad) ∧ (bad = false → z = r)) ∧ Below w.heap.size w w'
theorem iSlice_ic (s : ByteArray) (st en : Int) (w : World) (hs : s.size ≤ 2147483647) (b1 : -9223372036854775808 ≤ st ∧ st ≤ 9223372036854775807) (b2 : -9223372036854775808 ≤ en ∧ en ≤ 9223372036854775807) (hT : Tabs w) :
    Calls Tryd.prog 17 #[.string s, .int .i64 st, .int .i64 en] w (IC ⟨(sliceB (segs s.data.toList) st en).toArray⟩ (sliceBad (segs s.data.toList).length st en) w) := by
  cases hb : sliceBad (segs s.data.toList).length st en with
  | true => exact (implSlice_bad s st en w hs b1 b2 hT hb).mono fun e w' ⟨he, hw⟩ => ⟨⟨_, _, he, rfl, fun y => by cases y⟩, hw⟩
  | false => exact (implSlice_good s st en w hs b1 b2 hT (by rw [hb]; decide)).mono fun e w' ⟨he, hw⟩ => ⟨⟨_, _, he, rfl, fun _ => rfl⟩, hw⟩
theorem iInsert_ic (s p : ByteArray) (i : Int) (w : World) (hs : s.size ≤ 2147483647) (hp : p.size ≤ 2147483647) (b1 : -9223372036854775808 ≤ i ∧ i ≤ 9223372036854775807) (hT : Tabs w) :
    Calls Tryd.prog 19 #[.string s, .string p, .int .i64 i] w (IC ⟨(insB (segs s.data.toList) p i).toArray⟩ (insBad (segs s.data.toList).length i) w) := by
  cases hb : insBad (segs s.data.toList).length i with
  | true => exact (implInsert_bad s p i w hs hp b1 hT hb).mono fun e w' ⟨he, hw⟩ => ⟨⟨_, _, he, rfl, fun y => by cases y⟩, hw⟩
  | false => exact (implInsert_good s p i w hs hp b1 hT (by rw [hb]; decide)).mono fun e w' ⟨he, hw⟩ => ⟨⟨_, _, he, rfl, fun _ => rfl⟩, hw⟩
theorem ts_three {z z2 r : ByteArray} {x : Int} {bad is : Bool} (h : x = 2 ∨ x = 0 ∧ bad = true ∨ x = 1 ∧ bad = false ∧ z = r) (hi : is = !bad) (hq : bad = false → z2 = r) : (x = 2 ∨ x = 0 ∧ is = false ∨ x = 1 ∧ is = true) ∧ (x = 1 → z = z2) := by
  rcases h with rfl | ⟨rfl, h⟩ | ⟨rfl, h, hz⟩
  · exact ⟨.inl rfl, fun y => by omega⟩
  · subst h; exact ⟨.inr (.inl ⟨rfl, hi⟩), fun y => by omega⟩
  · subst h; exact ⟨.inr (.inr ⟨rfl, hi⟩), fun _ => hz.trans (hq rfl).symm⟩
theorem cen_eq : (⟨(centerB (⟨#[104, 101, 108, 108, 111]⟩ : ByteArray).data.toList (⟨#[49, 50, 51]⟩ : ByteArray).data.toList 10).toArray⟩ : ByteArray) = ⟨#[49, 50, 104, 101, 108, 108, 111, 49, 50, 51]⟩ := by decide +kernel
theorem cen_c (w : World) (hT : Tabs w) : Calls Tryd.prog 24 #[.string ⟨#[104, 101, 108, 108, 111]⟩, .int .i64 10, .string ⟨#[49, 50, 51]⟩] w fun e w' => e = .returned (.string ⟨#[49, 50, 104, 101, 108, 108, 111, 49, 50, 51]⟩) ∧ Below w.heap.size w w' := by
  have := implCenter_any ⟨#[104, 101, 108, 108, 111]⟩ 10 ⟨#[49, 50, 51]⟩ w (by decide) (by decide) (by decide) (by decide) hT
  rwa [cen_eq] at this
set_option maxHeartbeats 16000000 in
set_option maxRecDepth 100000 in
theorem fnTextSays_walk (s p : ByteArray) (n m : Int) (w : World) (hs0 : s.size ≤ 140737488351232) (hp0 : p.size ≤ 140737488351232) (hn0 : (Lit.int .i64 n).wf = true) (hm0 : (Lit.int .i64 m).wf = true) (hT : Tabs w) :
    Calls Tryd.prog 11 #[.string s, .string p, .int .i64 n, .int .i64 m] w fun e w' => e = .returned (.bool true) ∧ Below w.heap.size w w' := by
  by_cases hs : 2147483647 < s.size
  · have hzs : (2147483647 : Int) < (s.size : Int) := by omega
    clear hn0 hm0
    go_enter Tryd.func11, Tryd.ntmps11
    go_wp2
    go_ret
    exact ⟨rfl, Below.refl _ _⟩
  have hzs : ¬ (2147483647 : Int) < (s.size : Int) := by omega
  by_cases hp : 2147483647 < p.size
  · have hzp : (2147483647 : Int) < (p.size : Int) := by omega
    clear hn0 hm0
    go_enter Tryd.func11, Tryd.ntmps11
    go_wp2
    go_ret
    exact ⟨rfl, Below.refl _ _⟩
  have hzp : ¬ (2147483647 : Int) < (p.size : Int) := by omega
  have bn := ts_i64 hn0
  have bm := ts_i64 hm0
  clear hn0 hm0
  have HCN := Lib.hid cen_c
  obtain ⟨bf, hbf⟩ : ∃ bf, decide (2 + sumSz [s, p] ≤ 400) = bf := ⟨_, rfl⟩
  have HF : Hid (∀ w : World, Calls Tryd.prog 25 #[.slice (some ⟨w.heap.size, 0, none⟩) 2 2] (w.alloc (.cells #[.string s, .string p] 9)) fun e w' => e = .returned (.bool bf) ∧ w.alloc (.cells #[.string s, .string p] 9) = w') :=
    Lib.hid (fun w => ts_few [s, p] 2 rfl w (by omega) (by simp only [sumSz, List.map_cons, List.map_nil, List.sum_cons, List.sum_nil]; omega) bf hbf)
  obtain ⟨wn, hwn⟩ : ∃ wn, decide (2000 < n) = wn := ⟨_, rfl⟩
  have HWN := Lib.hid (ts_wide n wn hwn)
  obtain ⟨wm, hwm⟩ : ∃ wm, decide (2000 < m) = wm := ⟨_, rfl⟩
  have HWM := Lib.hid (ts_wide m wm hwm)
  cases bf with
  | false =>
    clear hbf hwn hwm bn bm
    go_enter Tryd.func11, Tryd.ntmps11
    go_wp2_with (go_at_call 24; (with_reducible refine (HCN.out _ hT).mono ?_); rintro e w1 ⟨rfl, hb1⟩; dsimp only)
    go_wp2_with (go_at_call 25; (with_reducible refine (HF.out _).mono ?_); rintro e w4 ⟨rfl, rfl⟩; dsimp only)
    have hB4 := bthen hb1 ((Below.refl _ w1).alloc (Nat.le_refl _) (.cells #[.string s, .string p] 9))
    go_ret
    exact ⟨rfl, hB4⟩
  | true =>
  cases wn with
  | true =>
    clear hbf hwn hwm bn bm
    go_enter Tryd.func11, Tryd.ntmps11
    go_wp2_with (go_at_call 24; (with_reducible refine (HCN.out _ hT).mono ?_); rintro e w1 ⟨rfl, hb1⟩; dsimp only)
    go_wp2_with (go_at_call 25; (with_reducible refine (HF.out _).mono ?_); rintro e w4 ⟨rfl, rfl⟩; dsimp only)
    go_wp2_with (go_at_call 20; (with_reducible refine (HWN.out _).mono ?_); rintro e w4 ⟨rfl, rfl⟩; dsimp only)
    have hB4 := bthen hb1 ((Below.refl _ w1).alloc (Nat.le_refl _) (.cells #[.string s, .string p] 9))
    go_ret
    exact ⟨rfl, hB4⟩
  | false =>
  cases wm with
  | true =>
    clear hbf hwn hwm bn bm
    go_enter Tryd.func11, Tryd.ntmps11
    go_wp2_with (go_at_call 24; (with_reducible refine (HCN.out _ hT).mono ?_); rintro e w1 ⟨rfl, hb1⟩; dsimp only)
    go_wp2_with (go_at_call 25; (with_reducible refine (HF.out _).mono ?_); rintro e w4 ⟨rfl, rfl⟩; dsimp only)
    go_wp2_with (go_at_call 20; (with_reducible refine (HWN.out _).mono ?_); rintro e w4 ⟨rfl, rfl⟩; dsimp only)
    go_wp2_with (go_at_call 20; (with_reducible refine (HWM.out _).mono ?_); rintro e w4 ⟨rfl, rfl⟩; dsimp only)
    have hB4 := bthen hb1 ((Below.refl _ w1).alloc (Nat.le_refl _) (.cells #[.string s, .string p] 9))
    go_ret
    exact ⟨rfl, hB4⟩
  | false =>
  have hsum := of_decide_eq_true hbf
  simp only [sumSz, List.map_cons, List.map_nil, List.sum_cons, List.sum_nil] at hsum
  have hs1 : s.size ≤ 400 := by omega
  have hp1 : p.size ≤ 400 := by omega
  have hn1 : n ≤ 2000 := by have := of_decide_eq_false hwn; omega
  have hm1 : m ≤ 2000 := by have := of_decide_eq_false hwm; omega
  clear hbf hwn hwm hsum
  have SL := Lib.hid (fun w hT => (specLeft_any s n p w (by omega) (by omega) (by omega) bn.1 hT).mono fun e w' h => ta_of h)
  have SR := Lib.hid (fun w hT => (specRight_any s n p w (by omega) (by omega) (by omega) bn.1 hT).mono fun e w' h => ta_of h)
  have SC := Lib.hid (fun w hT => (specCenter_any s n p w (by omega) (by omega) (by omega) bn.1 hT).mono fun e w' h => ta_of h)
  have SV := Lib.hid (fun w hT => (specReverse_any s w (by omega) hT).mono fun e w' h => ta_of h)
  have SP1 := Lib.hid (fun w => specPartition_any s p w (by omega) (by omega))
  have SP2 := Lib.hid (fun w => specLastPartition_any s p w (by omega) (by omega))
  have SS := Lib.hid (fun w hT => (specSlice_any s n m w (by omega) bn bm hT).mono fun e w' h => tc_of h)
  have SI := Lib.hid (fun w hT => (specInsert_any s p n w (by omega) (by omega) bn hT).mono fun e w' h => tc_of h)
  have IL := Lib.hid (fun w hT => implLeftJustify_any s n p w (by omega) (by omega) (by omega) bn.1 hT)
  have IR := Lib.hid (fun w hT => implRightJustify_any s n p w (by omega) (by omega) (by omega) bn.1 hT)
  have IZ := Lib.hid (fun w hT => implCenter_any s n p w (by omega) (by omega) (by omega) bn.1 hT)
  have IV : Hid (∀ w : World, Tabs w → Calls Tryd.prog 15 #[.string s] w fun e w' => e = .returned (.string ⟨(revB s.data.toList).toArray⟩) ∧ Below w.heap.size w w') := Lib.hid (fun w hT => implReverse_any s w (by omega) hT)
  have IP1 := Lib.hid (fun w => iPartition_any s p w (by omega) (by omega))
  have IP2 := Lib.hid (fun w => iLastPartition_any s p w (by omega) (by omega))
  have IS := Lib.hid (fun w hT => iSlice_ic s n m w (by omega) bn bm hT)
  have II := Lib.hid (fun w hT => iInsert_ic s p n w (by omega) (by omega) bn hT)
  generalize (⟨(leftB s.data.toList p.data.toList n).toArray⟩ : ByteArray) = rL at SL IL
  generalize (⟨(rightB s.data.toList p.data.toList n).toArray⟩ : ByteArray) = rR at SR IR
  generalize (⟨(centerB s.data.toList p.data.toList n).toArray⟩ : ByteArray) = rC at SC IZ
  generalize (⟨(revB s.data.toList).toArray⟩ : ByteArray) = rV at SV IV
  generalize (⟨(sliceB (segs s.data.toList) n m).toArray⟩ : ByteArray) = rS at SS IS
  generalize sliceBad (segs s.data.toList).length n m = bS at SS IS
  generalize (⟨(insB (segs s.data.toList) p n).toArray⟩ : ByteArray) = rI at SI II
  generalize insBad (segs s.data.toList).length n = bI at SI II
  clear bn bm
  go_enter Tryd.func11, Tryd.ntmps11
  go_wp2_with (go_at_call 24; (with_reducible refine (HCN.out _ hT).mono ?_); rintro e w1 ⟨rfl, hb1⟩; dsimp only)
  go_wp2_with (go_at_call 25; (with_reducible refine (HF.out _).mono ?_); rintro e w4 ⟨rfl, rfl⟩; dsimp only)
  go_wp2_with (go_at_call 20; (with_reducible refine (HWN.out _).mono ?_); rintro e w4 ⟨rfl, rfl⟩; dsimp only)
  go_wp2_with (go_at_call 20; with_reducible refine (HWM.out _).mono ?_)
  rintro e w4 ⟨rfl, rfl⟩
  dsimp only
  have hB4 := bthen hb1 ((Below.refl _ w1).alloc (Nat.le_refl _) (.cells #[.string s, .string p] 9))
  have hT4 := hT.below hB4
  clear hb1
  go_wp2_with (go_at_call 26; with_reducible refine (SL.out _ hT4).mono ?_)
  rintro e w5 ⟨⟨zL, xL, rfl, hL⟩, hb5⟩
  dsimp only
  have hB5 := bthen hB4 hb5
  have hT5 := hT.below hB5
  clear hb5 hB4 hT4
  go_wp2_with (go_at_call 27; with_reducible refine (SR.out _ hT5).mono ?_)
  rintro e w6 ⟨⟨zR, xR, rfl, hR⟩, hb6⟩
  dsimp only
  have hB6 := bthen hB5 hb6
  have hT6 := hT.below hB6
  clear hb6 hB5 hT5
  go_wp2_with (go_at_call 28; with_reducible refine (SC.out _ hT6).mono ?_)
  rintro e w7 ⟨⟨zC, xC, rfl, hC⟩, hb7⟩
  dsimp only
  have hB7 := bthen hB6 hb7
  have hT7 := hT.below hB7
  clear hb7 hB6 hT6
  go_wp2_with (go_at_call 29; with_reducible refine (SV.out _ hT7).mono ?_)
  rintro e w8 ⟨⟨zV, xV, rfl, hV⟩, hb8⟩
  dsimp only
  have hB8 := bthen hB7 hb8
  have hT8 := hT.below hB8
  clear hb8 hB7 hT7
  have HL := Lib.hid hL
  have HRR := Lib.hid hR
  have HCC := Lib.hid hC
  have HVV := Lib.hid hV
  clear hL hR hC hV
  go_wp2_with (go_at_call 30; with_reducible refine (SP1.out _).mono ?_)
  rintro e w9 ⟨hP1, hb9⟩
  have hB9 := bthen hB8 hb9
  clear hb9 hB8 hT8
  obtain ⟨a1, b1, c1, v1, rfl, HP1⟩ : ∃ a b c v, e = .returned (.tuple #[P3 a b c, .int .i64 v]) ∧ Hid ((v = 2 ∧ p.size = 0) ∨ (v = 1 ∧ p.size ≠ 0 ∧ ∃ r, IsFst s p r ∧ a = p1 s p r ∧ b = p2 s p r ∧ c = p3 s p r)) := by
    rcases hP1 with ⟨h0, x, y, z, h⟩ | ⟨h0, r, hr, h⟩
    · exact ⟨x, y, z, 2, h, Lib.hid (.inl ⟨rfl, h0⟩)⟩
    · exact ⟨_, _, _, 1, h, Lib.hid (.inr ⟨rfl, h0, r, hr, rfl, rfl, rfl⟩)⟩
  unfold P3
  dsimp only
  obtain ⟨W9, hW9⟩ : ∃ W9, w9.alloc (.cells #[.string a1, .string b1, .string c1] 42) = W9 := ⟨_, rfl⟩
  have hB9a : Below w.heap.size w W9 := hW9 ▸ hB9.alloc hB9.size _
  have HA1 : Hid (W9.heap[w9.heap.size]? = some (.cells #[.string a1, .string b1, .string c1] 42 (0, 0))) := Lib.hid (hW9 ▸ heap_alloc_new w9 _)
  clear hB9
  go_wp2_with (go_at_call 31; with_reducible refine (SP2.out _).mono ?_)
  rintro e w10 ⟨hP2, hb10⟩
  have HB10 := Lib.hid (bthen hB9a hb10)
  have HA1b : Hid (w10.heap[w9.heap.size]? = some (.cells #[.string a1, .string b1, .string c1] 42 (0, 0))) := Lib.hid ((hb10.block _ (lt_of_block HA1.out)).trans HA1.out)
  clear hb10 hB9a HA1 hW9
  obtain ⟨a2, b2, c2, v2, rfl, HP2⟩ : ∃ a b c v, e = .returned (.tuple #[P3 a b c, .int .i64 v]) ∧ Hid ((v = 2 ∧ p.size = 0) ∨ (v = 1 ∧ p.size ≠ 0 ∧ ∃ r, IsLst s p r ∧ a = q1 s p r ∧ b = p2 s p r ∧ c = q3 s p r)) := by
    rcases hP2 with ⟨h0, x, y, z, h⟩ | ⟨h0, r, hr, h⟩
    · exact ⟨x, y, z, 2, h, Lib.hid (.inl ⟨rfl, h0⟩)⟩
    · exact ⟨_, _, _, 1, h, Lib.hid (.inr ⟨rfl, h0, r, hr, rfl, rfl, rfl⟩)⟩
  unfold P3
  dsimp only
  obtain ⟨W10, hW10⟩ : ∃ W10, w10.alloc (.cells #[.string a2, .string b2, .string c2] 42) = W10 := ⟨_, rfl⟩
  have HB11 : Hid (Below w.heap.size w W10) := Lib.hid (hW10 ▸ HB10.out.alloc HB10.out.size _)
  have HA2 : Hid (W10.heap[w10.heap.size]? = some (.cells #[.string a2, .string b2, .string c2] 42 (0, 0))) := Lib.hid (hW10 ▸ heap_alloc_new w10 _)
  have HA1c : Hid (W10.heap[w9.heap.size]? = some (.cells #[.string a1, .string b1, .string c1] 42 (0, 0))) := Lib.hid (hW10 ▸ (Below.heap_alloc w10 _ _ (lt_of_block HA1b.out)).trans HA1b.out)
  clear HA1b HB10 
  have hT11 := hT.below HB11.out
  go_wp2_with (go_at_call 32; with_reducible refine (IP1.out _).mono ?_)
  rintro e w12 ⟨⟨r1, hr1, rfl⟩, rfl⟩
  dsimp only
  have HR1 := Lib.hid hr1
  clear hr1
  go_wp2_with (go_at_call 33; with_reducible refine (IP2.out _).mono ?_)
  rintro e w12 ⟨⟨r2, hr2, rfl⟩, rfl⟩
  dsimp only
  have HR2 := Lib.hid hr2
  clear hr2
  clear hW10
  have HV12 : Hid ((v1 = 2 ∧ v2 = 2) ∨ (v1 = 1 ∧ v2 = 1 ∧ a1 = p1 s p r1 ∧ b1 = p2 s p r1 ∧ c1 = p3 s p r1 ∧ a2 = q1 s p r2 ∧ b2 = p2 s p r2 ∧ c2 = q3 s p r2)) := Lib.hid (by
    rcases HP1.out with ⟨h1, h2⟩ | ⟨h1, h2, r, h3, h4, h5, h6⟩
    · rcases HP2.out with ⟨k1, k2⟩ | ⟨k1, k2, _⟩
      · exact .inl ⟨h1, k1⟩
      · exact absurd h2 k2
    · rcases HP2.out with ⟨k1, k2⟩ | ⟨k1, k2, r', k3, k4, k5, k6⟩
      · exact absurd k2 h2
      · obtain rfl := fst_uniq h3 HR1.out
        obtain rfl := lst_uniq k3 HR2.out
        exact .inr ⟨h1, k1, h4, h5, h6, k4, k5, k6⟩)
  clear HP1 HP2 HR1 HR2
  obtain ⟨z1, z2, z3, z4, z5⟩ := parts_le s p hs1 hp1 r1
  obtain ⟨y1, y2, y3, y4, y5⟩ := parts_le s p hs1 hp1 r2
  have HE1 := Lib.hid (fun W => arr3_eq (p1 s p r1) (p2 s p r1) (p3 s p r1) z1 z2 z3 W)
  have HE2 := Lib.hid (fun W => arr3_eq (q1 s p r2) (p2 s p r2) (q3 s p r2) y4 y2 y5 W)
  clear z1 z2 z3 z4 z5 y1 y2 y3 y4 y5
  generalize p1 s p r1 = g1 at HV12 HE1 ⊢
  generalize p2 s p r1 = g2 at HV12 HE1 ⊢
  generalize p3 s p r1 = g3 at HV12 HE1 ⊢
  generalize q1 s p r2 = g4 at HV12 HE2 ⊢
  generalize p2 s p r2 = g5 at HV12 HE2 ⊢
  generalize q3 s p r2 = g6 at HV12 HE2 ⊢
  have HTL := Lib.hid (fun W => told_gen rL zL xL HL.out W)
  have HTR := Lib.hid (fun W => told_gen rR zR xR HRR.out W)
  have HTC := Lib.hid (fun W => told_gen rC zC xC HCC.out W)
  have HTV := Lib.hid (fun W => told_gen rV zV xV HVV.out W)
  rcases HV12.out with ⟨rfl, rfl⟩ | ⟨rfl, rfl, rfl, rfl, rfl, rfl, rfl, rfl⟩
  · skip
    clear HV12
    go_wp2_with (go_at_call 23; (with_reducible refine (IL.out _ hT11).mono ?_); rintro e w13 ⟨rfl, hb13⟩; dsimp only; have HB13 := Lib.hid (bthen HB11.out hb13); have hT13 := hT.below HB13.out)
    go_wp2_with (go_at_call 34; (with_reducible refine (HTL.out _).mono ?_); rintro e w13 ⟨rfl, rfl⟩; dsimp only)
    go_wp2_with (go_at_call 21; (with_reducible refine (IR.out _ hT13).mono ?_); rintro e w14 ⟨rfl, hb14⟩; dsimp only; have HB14 := Lib.hid (bthen HB13.out hb14); have hT14 := hT.below HB14.out)
    go_wp2_with (go_at_call 34; (with_reducible refine (HTR.out _).mono ?_); rintro e w14 ⟨rfl, rfl⟩; dsimp only)
    go_wp2_with (go_at_call 24; (with_reducible refine (IZ.out _ hT14).mono ?_); rintro e w15 ⟨rfl, hb15⟩; dsimp only; have HB15 := Lib.hid (bthen HB14.out hb15); have hT15 := hT.below HB15.out)
    go_wp2_with (go_at_call 34; (with_reducible refine (HTC.out _).mono ?_); rintro e w15 ⟨rfl, rfl⟩; dsimp only)
    go_wp2_with (go_at_call 15; with_reducible refine (IV.out _ hT15).mono ?_)
    rintro e w16 ⟨rfl, hb16⟩
    dsimp only
    have HB16 := Lib.hid (bthen HB15.out hb16)
    have hT16 := hT.below HB16.out
    have hbA := bthen (bthen (bthen hb13 hb14) hb15) hb16
    obtain ⟨k1, k2, k3, _⟩ := three_cells ((hbA.block _ (lt_of_block HA1c.out)).trans HA1c.out)
    obtain ⟨k4, k5, k6, _⟩ := three_cells ((hbA.block _ (lt_of_block HA2.out)).trans HA2.out)
    clear hb13 hb14 hb15 hb16 hbA hT11 hT13 hT14 hT15
    have hE1 := HE1.out
    have hE2 := HE2.out
    go_wp2_with (go_at_call 34; (with_reducible refine (HTV.out _).mono ?_); rintro e w16 ⟨rfl, rfl⟩; dsimp only)
    clear hE1 hE2 HE1 HE2
    go_wp2_with (go_at_call 35; with_reducible refine (SS.out _ hT16).mono ?_)
    rintro e w17 ⟨⟨zS, xS, rfl, hS⟩, hb17⟩
    dsimp only
    have HB17 := Lib.hid (bthen HB16.out hb17)
    have hT17 := hT.below HB17.out
    have HS1 := Lib.hid hS
    clear hb17 hT16 hS k1 k2 k3 k4 k5 k6
    go_wp2_with (go_at_call 17; with_reducible refine (IS.out _ hT17).mono ?_)
    rintro e w18 ⟨⟨qS, iS, rfl, hiS, hqS⟩, hb18⟩
    dsimp only
    have HB18 := Lib.hid (bthen HB17.out hb18)
    have hT18 := hT.below HB18.out
    have HS2 := Lib.hid (ts_three HS1.out hiS hqS)
    clear hb18 hT17 hiS hqS
    go_wp2_with (go_at_call 36; with_reducible refine (SI.out _ hT18).mono ?_)
    rintro e w19 ⟨⟨zI, xI, rfl, hI⟩, hb19⟩
    dsimp only
    have HB19 := Lib.hid (bthen HB18.out hb19)
    have hT19 := hT.below HB19.out
    have HI1 := Lib.hid hI
    clear hb19 hT18 hI
    go_wp2_with (go_at_call 19; with_reducible refine (II.out _ hT19).mono ?_)
    rintro e w20 ⟨⟨qI, iI, rfl, hiI, hqI⟩, hb20⟩
    dsimp only
    have HB20 := Lib.hid (bthen HB19.out hb20)
    have HI2 := Lib.hid (ts_three HI1.out hiI hqI)
    clear hb20 hT19 hiI hqI
    have HTS := Lib.hid (fun W => told_gen qS zS xS HS2.out.2 W)
    have HTI := Lib.hid (fun W => told_gen qI zI xI HI2.out.2 W)
    rcases HS2.out.1 with rfl | ⟨rfl, rfl⟩ | ⟨rfl, rfl⟩ <;> rcases HI2.out.1 with rfl | ⟨rfl, rfl⟩ | ⟨rfl, rfl⟩
    all_goals
      go_wp2_with (go_at_call 34; (with_reducible refine (HTS.out _).mono ?_); rintro e w20 ⟨rfl, rfl⟩; dsimp only)
      go_wp2_with (go_at_call 34; (with_reducible refine (HTI.out _).mono ?_); rintro e w20 ⟨rfl, rfl⟩; dsimp only)
      go_ret
      exact ⟨rfl, HB20.out⟩
  · skip
    clear HV12
    go_wp2_with (go_at_call 23; (with_reducible refine (IL.out _ hT11).mono ?_); rintro e w13 ⟨rfl, hb13⟩; dsimp only; have HB13 := Lib.hid (bthen HB11.out hb13); have hT13 := hT.below HB13.out)
    go_wp2_with (go_at_call 34; (with_reducible refine (HTL.out _).mono ?_); rintro e w13 ⟨rfl, rfl⟩; dsimp only)
    go_wp2_with (go_at_call 21; (with_reducible refine (IR.out _ hT13).mono ?_); rintro e w14 ⟨rfl, hb14⟩; dsimp only; have HB14 := Lib.hid (bthen HB13.out hb14); have hT14 := hT.below HB14.out)
    go_wp2_with (go_at_call 34; (with_reducible refine (HTR.out _).mono ?_); rintro e w14 ⟨rfl, rfl⟩; dsimp only)
    go_wp2_with (go_at_call 24; (with_reducible refine (IZ.out _ hT14).mono ?_); rintro e w15 ⟨rfl, hb15⟩; dsimp only; have HB15 := Lib.hid (bthen HB14.out hb15); have hT15 := hT.below HB15.out)
    go_wp2_with (go_at_call 34; (with_reducible refine (HTC.out _).mono ?_); rintro e w15 ⟨rfl, rfl⟩; dsimp only)
    go_wp2_with (go_at_call 15; with_reducible refine (IV.out _ hT15).mono ?_)
    rintro e w16 ⟨rfl, hb16⟩
    dsimp only
    have HB16 := Lib.hid (bthen HB15.out hb16)
    have hT16 := hT.below HB16.out
    have hbA := bthen (bthen (bthen hb13 hb14) hb15) hb16
    obtain ⟨k1, k2, k3, _⟩ := three_cells ((hbA.block _ (lt_of_block HA1c.out)).trans HA1c.out)
    obtain ⟨k4, k5, k6, _⟩ := three_cells ((hbA.block _ (lt_of_block HA2.out)).trans HA2.out)
    clear hb13 hb14 hb15 hb16 hbA hT11 hT13 hT14 hT15
    have hE1 := HE1.out
    have hE2 := HE2.out
    go_wp2_with (go_at_call 34; (with_reducible refine (HTV.out _).mono ?_); rintro e w16 ⟨rfl, rfl⟩; dsimp only)
    clear hE1 hE2 HE1 HE2
    go_wp2_with (go_at_call 35; with_reducible refine (SS.out _ hT16).mono ?_)
    rintro e w17 ⟨⟨zS, xS, rfl, hS⟩, hb17⟩
    dsimp only
    have HB17 := Lib.hid (bthen HB16.out hb17)
    have hT17 := hT.below HB17.out
    have HS1 := Lib.hid hS
    clear hb17 hT16 hS k1 k2 k3 k4 k5 k6
    go_wp2_with (go_at_call 17; with_reducible refine (IS.out _ hT17).mono ?_)
    rintro e w18 ⟨⟨qS, iS, rfl, hiS, hqS⟩, hb18⟩
    dsimp only
    have HB18 := Lib.hid (bthen HB17.out hb18)
    have hT18 := hT.below HB18.out
    have HS2 := Lib.hid (ts_three HS1.out hiS hqS)
    clear hb18 hT17 hiS hqS
    go_wp2_with (go_at_call 36; with_reducible refine (SI.out _ hT18).mono ?_)
    rintro e w19 ⟨⟨zI, xI, rfl, hI⟩, hb19⟩
    dsimp only
    have HB19 := Lib.hid (bthen HB18.out hb19)
    have hT19 := hT.below HB19.out
    have HI1 := Lib.hid hI
    clear hb19 hT18 hI
    go_wp2_with (go_at_call 19; with_reducible refine (II.out _ hT19).mono ?_)
    rintro e w20 ⟨⟨qI, iI, rfl, hiI, hqI⟩, hb20⟩
    dsimp only
    have HB20 := Lib.hid (bthen HB19.out hb20)
    have HI2 := Lib.hid (ts_three HI1.out hiI hqI)
    clear hb20 hT19 hiI hqI
    have HTS := Lib.hid (fun W => told_gen qS zS xS HS2.out.2 W)
    have HTI := Lib.hid (fun W => told_gen qI zI xI HI2.out.2 W)
    rcases HS2.out.1 with rfl | ⟨rfl, rfl⟩ | ⟨rfl, rfl⟩ <;> rcases HI2.out.1 with rfl | ⟨rfl, rfl⟩ | ⟨rfl, rfl⟩
    all_goals
      go_wp2_with (go_at_call 34; (with_reducible refine (HTS.out _).mono ?_); rintro e w20 ⟨rfl, rfl⟩; dsimp only)
      go_wp2_with (go_at_call 34; (with_reducible refine (HTI.out _).mono ?_); rintro e w20 ⟨rfl, rfl⟩; dsimp only)
      go_ret
      exact ⟨rfl, HB20.out⟩
end Go.Proofs.YtobcoplfniojkaaDoor
