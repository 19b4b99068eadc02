/- The walk of the law FnSlice: which runes a slice of a text has, and when it panics. -/
import Derived.Test.YtobcoplfniojkaaDoorISlice
import Derived.Test.YtobcoplfniojkaaDoorText
namespace Go.Proofs.YtobcoplfniojkaaDoor
open Go.RowKit Plain

theorem i64_bd {x : Int} (h : (Lit.int .i64 x).wf = true) : -9223372036854775808 ≤ x ∧ x ≤ 9223372036854775807 := by simpa [Lit.wf, IntKind.min, IntKind.max, IntKind.signed, IntKind.bits] using h
theorem vld_ok {s : ByteArray} (h : vld s = true) : s.size ≤ 4096 ∧ Lib.validD s.data.toList = true := by simpa [vld] using h
theorem bad_hello : ¬ sliceBad (segs (⟨#[104, 101, 108, 108, 111]⟩ : ByteArray).data.toList).length 1 3 = true := by decide +kernel
theorem good_hello : (⟨(sliceB (segs (⟨#[104, 101, 108, 108, 111]⟩ : ByteArray).data.toList) 1 3).toArray⟩ : ByteArray) = ⟨#[101, 108]⟩ := by decide +kernel
theorem hello_any (w : World) (hT : Tabs w) : Calls Tryd.prog 17 #[.string ⟨#[104, 101, 108, 108, 111]⟩, .int .i64 1, .int .i64 3] w fun e w' => e = .returned (.tuple #[.string ⟨#[101, 108]⟩, .bool true]) ∧ Below w.heap.size w w' := by
  have := implSlice_good ⟨#[104, 101, 108, 108, 111]⟩ 1 3 w (by decide) (by decide) (by decide) hT bad_hello
  rwa [good_hello] at this

/-- the runes that a slice of a list of runes has, where they lie -/
theorem runesAt_sub {w : World} {B : Nat} {ad : Option Addr} {cap : Nat} {xs : List Nat} (h : w.ownsRow B 21 1 (.slice ad xs.length cap) xs.length (rcells xs)) :
    (ad = none ∧ cap = 0 ∧ xs = []) ∨ ∃ g, ad = some ⟨g, 0, none⟩ ∧ xs.length ≤ cap ∧ cap ≤ maxLen ∧ ∀ a b, RunesAt w (some ⟨g, a, none⟩) ((xs.take b).drop a) := by
  rcases h.2 with ⟨hv, h0⟩ | ⟨g, c, cur, hv, _, hg, hnc, hcm, hcs, htk⟩
  · injection hv with h1 h2 h3
    exact .inl ⟨h1, h3, List.eq_nil_of_length_eq_zero h0⟩
  · injection hv with h1 h2 h3
    subst h1
    subst h3
    refine .inr ⟨g, rfl, hnc, hcm, fun a b j r hj => ?_⟩
    have hadd : (⟨g, a, none⟩ : Addr).add j = ⟨g, a + j, none⟩ := by unfold Addr.add; split <;> simp_all
    rw [hadd, Lib.cell_of_heap hg]
    rw [List.getElem?_drop, List.getElem?_take] at hj
    split at hj
    · have hlt : a + j < xs.length := (List.getElem?_eq_some_iff.1 hj).1
      have hx : (rcells xs)[a + j]? = some (.int .i32 (r : Int)) := by simp [rcells, hj]
      rw [← htk, List.getElem?_take] at hx
      rw [if_pos (by omega)] at hx
      rw [← Array.getElem?_toList]
      exact hx
    · cases hj
theorem RunesAt.below {w w' : World} {B g a : Nat} {xs : List Nat} (h : RunesAt w (some ⟨g, a, none⟩) xs) (hb : Below B w w') (hg : g < B) : RunesAt w' (some ⟨g, a, none⟩) xs := by
  intro j r hj
  have hadd : (⟨g, a, none⟩ : Addr).add j = ⟨g, a + j, none⟩ := by unfold Addr.add; split <;> simp_all
  have := h j r hj
  rw [hadd] at this ⊢
  rw [hb.cell (p := ⟨g, a + j, none⟩) hg]
  exact this
theorem slice_text (cs : List (List UInt8)) (h : ∀ c ∈ cs, Plain.Good c) (a b : Nat) : textOf (((cs.map runeOf).take b).drop a) = ⟨(((cs.take b).drop a).flatten).toArray⟩ := by
  have e : ((cs.map runeOf).take b).drop a = ((cs.take b).drop a).map runeOf := by rw [List.map_take.symm, List.map_drop.symm]
  rw [e]
  have := textOf_good ((cs.take b).drop a) (fun c hc => h c (List.mem_of_mem_take (List.mem_of_mem_drop hc)))
  rw [← this]

set_option maxHeartbeats 2000000 in
set_option maxRecDepth 100000 in
theorem fnSlice_early (s : ByteArray) (st en : Int) (w : World) (hT : Tabs w) (h : 2147483647 < s.size ∨ vld s = false) :
    Calls Tryd.prog 6 #[.string s, .int .i64 st, .int .i64 en] w fun e w' => e = .returned (.bool true) ∧ Below w.heap.size w w' := by
  by_cases hb : 2147483647 < s.size
  · have hbz : (2147483647 : Int) < (s.size : Int) := by omega
    go_enter Tryd.func6, Tryd.ntmps6
    go_wp2
    go_ret
    exact ⟨rfl, Below.refl _ _⟩
  · have hbz : ¬ (2147483647 : Int) < (s.size : Int) := by omega
    have hle : s.size ≤ 2147483647 := by omega
    have hv : vld s = false := by rcases h with h | h; exact absurd h hb; exact h
    have cV : ∀ w, Tabs w → Calls Tryd.prog 12 #[.string s] w fun e w' => e = .returned (.bool false) ∧ Below w.heap.size w w' := fun w hT => hv ▸ valid_any s w hle hT
    have HV := Lib.hid cV
    clear cV hv h
    go_enter Tryd.func6, Tryd.ntmps6
    go_wp2_with (go_at_call 17; refine (hello_any _ hT).mono ?_; rintro e w1 ⟨rfl, hb1⟩)
    have hT1 := hT.below hb1
    go_wp2_with (go_at_call 12; refine (HV.out _ hT1).mono ?_; rintro e w2 ⟨rfl, hb2⟩)
    go_ret
    exact ⟨rfl, bthen hb1 hb2⟩

set_option maxHeartbeats 4000000 in
set_option maxRecDepth 100000 in
theorem fnSlice_bad (s : ByteArray) (st en : Int) (w : World) (b1 : -9223372036854775808 ≤ st ∧ st ≤ 9223372036854775807) (b2 : -9223372036854775808 ≤ en ∧ en ≤ 9223372036854775807) (hT : Tabs w) (hv : vld s = true) (hbad : sliceBad (segs s.data.toList).length st en = true) :
    Calls Tryd.prog 6 #[.string s, .int .i64 st, .int .i64 en] w fun e w' => e = .returned (.bool true) ∧ Below w.heap.size w w' := by
  have hle := (vld_ok hv).1
  have hbz : ¬ (2147483647 : Int) < (s.size : Int) := by omega
  have cV : ∀ w, Tabs w → Calls Tryd.prog 12 #[.string s] w fun e w' => e = .returned (.bool true) ∧ Below w.heap.size w w' := fun w hT => hv ▸ valid_any s w (by omega) hT
  obtain ⟨XS, hXS⟩ : ∃ XS, rnsOf s.data.toList = XS := ⟨_, rfl⟩
  have hXL : XS.length = (segs s.data.toList).length := by rw [← hXS]; simp [rnsOf]
  have hXs : XS.length ≤ 4096 := by rw [hXL]; have := segs_le s; omega
  have cR : ∀ w, Calls Tryd.prog 14 #[.string s] w fun e w' => ∃ ad cap, e = .returned (.slice ad XS.length cap) ∧ w'.ownsRow (w.heap.size + 1) 21 1 (.slice ad XS.length cap) XS.length (rcells XS) ∧ Below w.heap.size w w' := fun w => hXS ▸ runes_slice s w (by omega)
  have cS : ∀ w, Tabs w → Calls Tryd.prog 17 #[.string s, .int .i64 st, .int .i64 en] w fun e w' => e = .returned (.tuple #[.string ⟨#[]⟩, .bool false]) ∧ Below w.heap.size w w' := fun w hT => implSlice_bad s st en w (by omega) b1 b2 hT hbad
  rw [← hXL] at hbad
  generalize XS.length = n at hXs cR hbad
  have HV := Lib.hid cV
  have HR := Lib.hid cR
  have HS := Lib.hid cS
  clear cV cR cS hXL hXS hv hle
  have hcase : st < 0 ∨ (0 ≤ st ∧ (n : Int) < st) ∨ (0 ≤ st ∧ st ≤ n ∧ 0 ≤ en ∧ en < st) ∨ (0 ≤ st ∧ st ≤ n ∧ 0 ≤ en ∧ st ≤ en ∧ (n : Int) < en) := by
    simp [sliceBad] at hbad; omega
  clear hbad
  rcases hcase with c | ⟨c1, c2⟩ | ⟨c1, c2, c3, c4⟩ | ⟨c1, c2, c3, c4, c5⟩
  all_goals
    go_enter Tryd.func6, Tryd.ntmps6
    go_wp2_with (go_at_call 17; refine (hello_any _ hT).mono ?_; rintro e w1 ⟨rfl, hb1⟩)
    have hT1 := hT.below hb1
    go_wp2_with (go_at_call 12; refine (HV.out _ hT1).mono ?_; rintro e w2 ⟨rfl, hb2⟩)
    have hT2 := hT1.below hb2
    go_wp2_with (go_at_call 14; refine (HR.out _).mono ?_; rintro e w3 ⟨ad, cap, rfl, hown, hb3⟩)
    have hT3 := hT2.below hb3
    clear hown
    go_wp2_with (go_at_call 17; refine (HS.out _ hT3).mono ?_; rintro e w4 ⟨rfl, hb4⟩)
    go_ret
    exact ⟨rfl, bthen (bthen (bthen hb1 hb2) hb3) hb4⟩

set_option maxHeartbeats 4000000 in
set_option maxRecDepth 100000 in
theorem fnSlice_to (s : ByteArray) (a0 b0 : Nat) (w : World) (hab : a0 ≤ b0) (hbn : b0 ≤ (segs s.data.toList).length) (hT : Tabs w) (hv : vld s = true) :
    Calls Tryd.prog 6 #[.string s, .int .i64 a0, .int .i64 b0] w fun e w' => e = .returned (.bool true) ∧ Below w.heap.size w w' := by
  have hle := (vld_ok hv).1
  have hbz : ¬ (2147483647 : Int) < (s.size : Int) := by omega
  have cV : ∀ w, Tabs w → Calls Tryd.prog 12 #[.string s] w fun e w' => e = .returned (.bool true) ∧ Below w.heap.size w w' := fun w hT => hv ▸ valid_any s w (by omega) hT
  have hgood := segs_good s.data.toList (vld_ok hv).2
  obtain ⟨CS, hCS⟩ : ∃ CS, segs s.data.toList = CS := ⟨_, rfl⟩
  obtain ⟨XS, hXS⟩ : ∃ XS, rnsOf s.data.toList = XS := ⟨_, rfl⟩
  have hXC : XS = CS.map runeOf := by rw [← hXS, ← hCS]; rfl
  have hXL : XS.length = CS.length := by rw [hXC]; simp
  have hXs : XS.length ≤ 4096 := by rw [hXL, ← hCS]; have := segs_le s; omega
  have ha : a0 ≤ XS.length := by rw [hXL, ← hCS]; omega
  have hb : b0 ≤ XS.length := by rw [hXL, ← hCS]; omega
  have hnb : ¬ sliceBad (segs s.data.toList).length a0 b0 = true := by simp [sliceBad]; omega
  have cR : ∀ w, Calls Tryd.prog 14 #[.string s] w fun e w' => ∃ ad cap, e = .returned (.slice ad XS.length cap) ∧ w'.ownsRow (w.heap.size + 1) 21 1 (.slice ad XS.length cap) XS.length (rcells XS) ∧ Below w.heap.size w w' := fun w => hXS ▸ runes_slice s w (by omega)
  obtain ⟨r, hr⟩ : ∃ r : ByteArray, ⟨(sliceB CS a0 b0).toArray⟩ = r := ⟨_, rfl⟩
  have cS : ∀ w, Tabs w → Calls Tryd.prog 17 #[.string s, .int .i64 a0, .int .i64 b0] w fun e w' => e = .returned (.tuple #[.string r, .bool true]) ∧ Below w.heap.size w w' := fun w hT => by
    have := implSlice_good s a0 b0 w (by omega) (by omega) (by omega) hT hnb
    rwa [hCS, hr] at this
  have hrt : textOf ((XS.take b0).drop a0) = r := by rw [hXC, slice_text CS (hCS ▸ hgood), ← hr]; unfold sliceB; rw [if_neg (by omega)]; simp only [Int.toNat_natCast]
  have hsl : ((XS.take b0).drop a0).length = b0 - a0 := by rw [List.length_drop, List.length_take]; omega
  obtain ⟨n, hn⟩ : ∃ n, XS.length = n := ⟨_, rfl⟩
  have HV := Lib.hid cV
  have HR := Lib.hid cR
  have HS := Lib.hid cS
  have HT := Lib.hid hrt
  have HL := Lib.hid hsl
  have HN := Lib.hid hn
  rw [hn] at hXs HR ha hb
  clear cV cR cS hXC hXL hXS hv hle hr hrt hsl hgood hCS hnb hn
  go_enter Tryd.func6, Tryd.ntmps6
  go_wp2_with (go_at_call 17; refine (hello_any _ hT).mono ?_; rintro e w1 ⟨rfl, hb1⟩)
  have hT1 := hT.below hb1
  go_wp2_with (go_at_call 12; refine (HV.out _ hT1).mono ?_; rintro e w2 ⟨rfl, hb2⟩)
  have hT2 := hT1.below hb2
  go_wp2_with (go_at_call 14; refine (HR.out _).mono ?_; rintro e w3 ⟨ad, cap, rfl, hown, hb3⟩)
  have hT3 := hT2.below hb3
  have hw3 : Below w.heap.size w w3 := bthen (bthen hb1 hb2) hb3
  rw [← HN.out] at hown
  have hlt := hown.lt
  have hR := runesAt_sub hown
  rw [HN.out] at hR
  clear hown hb1 hb2 hb3 hT1 hT2
  rcases hR with ⟨rfl, rfl, hx⟩ | ⟨g, rfl, hnc, hcm, hra⟩
  · have hn0 : n = 0 := by rw [← HN.out, hx]; rfl
    have ha0 : a0 = 0 := by omega
    have hb0 : b0 = 0 := by omega
    subst ha0
    subst hb0
    subst hn0
    have e0 : textOf [] = r := by have := HT.out; rwa [List.take_zero, List.drop_zero] at this
    have cT : ∀ w, Calls Tryd.prog 18 #[.slice none 0 0] w fun e w' => e = .returned (.string r) ∧ w = w' := fun w => e0 ▸ text_any none 0 [] w rfl
    have HTT := Lib.hid cT
    clear e0 cT
    go_wp2_with (go_at_call 17; refine (HS.out _ hT3).mono ?_; rintro e w4 ⟨rfl, hb4⟩)
    go_wp2_with (go_at_call 18; refine (HTT.out _).mono ?_; rintro e w5 ⟨rfl, rfl⟩)
    go_ret
    exact ⟨rfl, bthen hw3 hb4⟩
  · have hg3 : g < w3.heap.size := (hlt g rfl).2
    go_wp2_with (go_at_call 17; refine (HS.out _ hT3).mono ?_; rintro e w4 ⟨rfl, hb4⟩)
    all_goals
      first
        | (have hca : cap = a0 := by assumption
           have hz : b0 - a0 = 0 := by omega
           have hlist : (XS.take b0).drop a0 = [] := List.eq_nil_of_length_eq_zero (by rw [HL.out]; exact hz)
           have ht := text_any (some ⟨g, 0, none⟩) 0 [] w4 (fun j x hj => by simp at hj)
           have e0 : textOf [] = r := by have := HT.out; rwa [hlist] at this
           rw [e0] at ht
           rw [hz]
           clear e0 hlist hra
           go_wp2_with (go_at_call 18; refine ht.mono ?_; rintro e w5 ⟨rfl, rfl⟩)
           go_ret
           exact ⟨rfl, bthen hw3 hb4⟩)
        | (have ht := text_any (some ⟨g, a0, none⟩) (cap - a0) ((XS.take b0).drop a0) w4 (RunesAt.below (hra a0 b0) hb4 hg3)
           rw [HL.out, HT.out] at ht
           clear hra
           go_wp2_with (go_at_call 18; refine ht.mono ?_; rintro e w5 ⟨rfl, rfl⟩)
           go_ret
           exact ⟨rfl, bthen hw3 hb4⟩)

set_option maxHeartbeats 4000000 in
set_option maxRecDepth 100000 in
theorem fnSlice_neg (s : ByteArray) (a0 : Nat) (en : Int) (w : World) (han : a0 ≤ (segs s.data.toList).length) (ce : en < 0) (b2 : -9223372036854775808 ≤ en) (hT : Tabs w) (hv : vld s = true) :
    Calls Tryd.prog 6 #[.string s, .int .i64 a0, .int .i64 en] w fun e w' => e = .returned (.bool true) ∧ Below w.heap.size w w' := by
  have hle := (vld_ok hv).1
  have hbz : ¬ (2147483647 : Int) < (s.size : Int) := by omega
  have cV : ∀ w, Tabs w → Calls Tryd.prog 12 #[.string s] w fun e w' => e = .returned (.bool true) ∧ Below w.heap.size w w' := fun w hT => hv ▸ valid_any s w (by omega) hT
  have hgood := segs_good s.data.toList (vld_ok hv).2
  obtain ⟨CS, hCS⟩ : ∃ CS, segs s.data.toList = CS := ⟨_, rfl⟩
  obtain ⟨XS, hXS⟩ : ∃ XS, rnsOf s.data.toList = XS := ⟨_, rfl⟩
  have hXC : XS = CS.map runeOf := by rw [← hXS, ← hCS]; rfl
  have hXL : XS.length = CS.length := by rw [hXC]; simp
  have hXs : XS.length ≤ 4096 := by rw [hXL, ← hCS]; have := segs_le s; omega
  obtain ⟨n, hn⟩ : ∃ n, XS.length = n := ⟨_, rfl⟩
  have ha : a0 ≤ XS.length := by rw [hXL, ← hCS]; omega
  have hb : n ≤ XS.length := by omega
  have hnb : ¬ sliceBad (segs s.data.toList).length a0 en = true := by simp [sliceBad]; omega
  have cR : ∀ w, Calls Tryd.prog 14 #[.string s] w fun e w' => ∃ ad cap, e = .returned (.slice ad XS.length cap) ∧ w'.ownsRow (w.heap.size + 1) 21 1 (.slice ad XS.length cap) XS.length (rcells XS) ∧ Below w.heap.size w w' := fun w => hXS ▸ runes_slice s w (by omega)
  obtain ⟨r, hr⟩ : ∃ r : ByteArray, ⟨(sliceB CS a0 en).toArray⟩ = r := ⟨_, rfl⟩
  have cS : ∀ w, Tabs w → Calls Tryd.prog 17 #[.string s, .int .i64 a0, .int .i64 en] w fun e w' => e = .returned (.tuple #[.string r, .bool true]) ∧ Below w.heap.size w w' := fun w hT => by
    have := implSlice_good s a0 en w (by omega) (by omega) (by omega) hT hnb
    rwa [hCS, hr] at this
  have hrt : textOf ((XS.take n).drop a0) = r := by rw [hXC, slice_text CS (hCS ▸ hgood), ← hr]; unfold sliceB; rw [if_pos ce, List.take_of_length_le (by omega)]; simp only [Int.toNat_natCast]
  have hsl : ((XS.take n).drop a0).length = n - a0 := by rw [List.length_drop, List.length_take]; omega
  have HV := Lib.hid cV
  have HR := Lib.hid cR
  have HS := Lib.hid cS
  have HT := Lib.hid hrt
  have HL := Lib.hid hsl
  have HN := Lib.hid hn
  rw [hn] at hXs HR ha hb
  clear cV cR cS hXC hXL hXS hv hle hr hrt hsl hgood hCS hnb hn
  go_enter Tryd.func6, Tryd.ntmps6
  go_wp2_with (go_at_call 17; refine (hello_any _ hT).mono ?_; rintro e w1 ⟨rfl, hb1⟩)
  have hT1 := hT.below hb1
  go_wp2_with (go_at_call 12; refine (HV.out _ hT1).mono ?_; rintro e w2 ⟨rfl, hb2⟩)
  have hT2 := hT1.below hb2
  go_wp2_with (go_at_call 14; refine (HR.out _).mono ?_; rintro e w3 ⟨ad, cap, rfl, hown, hb3⟩)
  have hT3 := hT2.below hb3
  have hw3 : Below w.heap.size w w3 := bthen (bthen hb1 hb2) hb3
  rw [← HN.out] at hown
  have hlt := hown.lt
  have hR := runesAt_sub hown
  rw [HN.out] at hR
  clear hown hb1 hb2 hb3 hT1 hT2
  rcases hR with ⟨rfl, rfl, hx⟩ | ⟨g, rfl, hnc, hcm, hra⟩
  · have hn0 : n = 0 := by rw [← HN.out, hx]; rfl
    have ha0 : a0 = 0 := by omega
    subst ha0
    subst hn0
    have e0 : textOf [] = r := by have := HT.out; rwa [List.take_zero, List.drop_zero] at this
    have cT : ∀ w, Calls Tryd.prog 18 #[.slice none 0 0] w fun e w' => e = .returned (.string r) ∧ w = w' := fun w => e0 ▸ text_any none 0 [] w rfl
    have HTT := Lib.hid cT
    clear e0 cT
    go_wp2_with (go_at_call 17; refine (HS.out _ hT3).mono ?_; rintro e w4 ⟨rfl, hb4⟩)
    go_wp2_with (go_at_call 18; refine (HTT.out _).mono ?_; rintro e w5 ⟨rfl, rfl⟩)
    go_ret
    exact ⟨rfl, bthen hw3 hb4⟩
  · have hg3 : g < w3.heap.size := (hlt g rfl).2
    go_wp2_with (go_at_call 17; refine (HS.out _ hT3).mono ?_; rintro e w4 ⟨rfl, hb4⟩)
    all_goals
      first
        | (have hca : cap = a0 := by assumption
           have hz : n - a0 = 0 := by omega
           have hlist : (XS.take n).drop a0 = [] := List.eq_nil_of_length_eq_zero (by rw [HL.out]; exact hz)
           have ht := text_any (some ⟨g, 0, none⟩) 0 [] w4 (fun j x hj => by simp at hj)
           have e0 : textOf [] = r := by have := HT.out; rwa [hlist] at this
           rw [e0] at ht
           rw [hz]
           clear e0 hlist hra
           go_wp2_with (go_at_call 18; refine ht.mono ?_; rintro e w5 ⟨rfl, rfl⟩)
           go_ret
           exact ⟨rfl, bthen hw3 hb4⟩)
        | (have ht := text_any (some ⟨g, a0, none⟩) (cap - a0) ((XS.take n).drop a0) w4 (RunesAt.below (hra a0 n) hb4 hg3)
           rw [HL.out, HT.out] at ht
           clear hra
           go_wp2_with (go_at_call 18; refine ht.mono ?_; rintro e w5 ⟨rfl, rfl⟩)
           go_ret
           exact ⟨rfl, bthen hw3 hb4⟩)

theorem fnSlice_walk (s : ByteArray) (st en : Int) (w : World) (_hs : s.size ≤ 140737488351232) (h1 : (Lit.int .i64 st).wf = true) (h2 : (Lit.int .i64 en).wf = true) (hT : Tabs w) :
    Calls Tryd.prog 6 #[.string s, .int .i64 st, .int .i64 en] w fun e w' => e = .returned (.bool true) ∧ Below w.heap.size w w' := by
  have b1 := i64_bd h1
  have b2 := i64_bd h2
  by_cases h : 2147483647 < s.size ∨ vld s = false
  · exact fnSlice_early s st en w hT h
  · have hv : vld s = true := by
      cases hv : vld s with
      | true => rfl
      | false => exact absurd (.inr hv) h
    by_cases hb : sliceBad (segs s.data.toList).length st en = true
    · exact fnSlice_bad s st en w b1 b2 hT hv hb
    · have hc : 0 ≤ st ∧ st ≤ (segs s.data.toList).length ∧ (en < 0 ∨ (st ≤ en ∧ en ≤ (segs s.data.toList).length)) := by
        simp [sliceBad] at hb; omega
      obtain ⟨a0, rfl⟩ : ∃ a0 : Nat, st = a0 := ⟨st.toNat, by omega⟩
      by_cases ce : en < 0
      · exact fnSlice_neg s a0 en w (by omega) ce b2.1 hT hv
      · obtain ⟨b0, rfl⟩ : ∃ b0 : Nat, en = b0 := ⟨en.toNat, by omega⟩
        exact fnSlice_to s a0 b0 w (by omega) (by omega) hT hv
end Go.Proofs.YtobcoplfniojkaaDoor
