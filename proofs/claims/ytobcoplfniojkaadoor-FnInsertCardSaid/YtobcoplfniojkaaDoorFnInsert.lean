/- The walk of the law FnInsert: a text is put at a rune's place of another one, and this panics out of range. -/
import Derived.Test.YtobcoplfniojkaaDoorInsert
import Derived.Test.YtobcoplfniojkaaDoorText
import Derived.Deep.QuietTactic
import Derived.BigQuiet
namespace Go.Proofs.YtobcoplfniojkaaDoor
open Go.RowKit Plain

theorem i64_bd' {x : Int} (h : (Lit.int .i64 x).wf = true) : -9223372036854775808 ≤ x ∧ x ≤ 9223372036854775807 := by simpa [Lit.wf, IntKind.min, IntKind.max, IntKind.signed, IntKind.bits] using h
theorem vld_ok' {s : ByteArray} (h : vld s = true) : s.size ≤ 4096 ∧ Lib.validD s.data.toList = true := by simpa [vld] using h
theorem bad_ac : ¬ insBad (segs (⟨#[97, 99]⟩ : ByteArray).data.toList).length 1 = true := by decide +kernel
theorem good_ac : (⟨(insB (segs (⟨#[97, 99]⟩ : ByteArray).data.toList) ⟨#[98]⟩ 1).toArray⟩ : ByteArray) = ⟨#[97, 98, 99]⟩ := by decide +kernel
theorem ac_any (w : World) (hT : Tabs w) : Calls Tryd.prog 19 #[.string ⟨#[97, 99]⟩, .string ⟨#[98]⟩, .int .i64 1] w fun e w' => e = .returned (.tuple #[.string ⟨#[97, 98, 99]⟩, .bool true]) ∧ Below w.heap.size w w' := by
  have := implInsert_good ⟨#[97, 99]⟩ ⟨#[98]⟩ 1 w (by decide) (by decide) (by decide) hT bad_ac
  rwa [good_ac] at this

/-- where the parts of a list of runes lie -/
theorem runesAt_parts {w : World} {B : Nat} {ad : Option Addr} {cap : Nat} {xs : List Nat} (h : w.ownsRow B 21 1 (.slice ad xs.length cap) xs.length (rcells xs)) :
    (ad = none ∧ cap = 0 ∧ xs = []) ∨ ∃ g, ad = some ⟨g, 0, none⟩ ∧ xs.length ≤ cap ∧ cap ≤ maxLen ∧ ∀ a b, RunesAt w (some ⟨g, a, none⟩) ((xs.take b).drop a) := by
  rcases h.2 with ⟨hv, h0⟩ | ⟨g, c, cur, hv, _, hg, hnc, hcm, hcs, htk⟩
  · injection hv with h1 h2 h3
    exact .inl ⟨h1, h3, List.eq_nil_of_length_eq_zero h0⟩
  · injection hv with h1 h2 h3
    subst h1
    subst h3
    refine .inr ⟨g, rfl, hnc, hcm, fun a b j r hj => ?_⟩
    have hadd : (⟨g, a, none⟩ : Addr).add j = ⟨g, a + j, none⟩ := by unfold Addr.add; split <;> simp_all
    rw [hadd, Lib.cell_of_heap hg]
    rw [List.getElem?_drop, List.getElem?_take] at hj
    split at hj
    · have hlt : a + j < xs.length := (List.getElem?_eq_some_iff.1 hj).1
      have hx : (rcells xs)[a + j]? = some (.int .i32 (r : Int)) := by simp [rcells, hj]
      rw [← htk, List.getElem?_take] at hx
      rw [if_pos (by omega)] at hx
      rw [← Array.getElem?_toList]
      exact hx
    · cases hj
theorem runesAt_below {w w' : World} {B g a : Nat} {xs : List Nat} (h : RunesAt w (some ⟨g, a, none⟩) xs) (hb : Below B w w') (hg : g < B) : RunesAt w' (some ⟨g, a, none⟩) xs := by
  intro j r hj
  have hadd : (⟨g, a, none⟩ : Addr).add j = ⟨g, a + j, none⟩ := by unfold Addr.add; split <;> simp_all
  have := h j r hj
  rw [hadd] at this ⊢
  rw [hb.cell (p := ⟨g, a + j, none⟩) hg]
  exact this
theorem runesAt_drewN {w : World} {ad : Option Addr} {xs : List Nat} (h : RunesAt w ad xs) (n : Nat) : RunesAt (w.drewN n) ad xs := h
theorem textOf_flat (cs : List (List UInt8)) (h : ∀ c ∈ cs, Plain.Good c) : textOf (cs.map runeOf) = ⟨cs.flatten.toArray⟩ := by
  have := textOf_good cs h
  rw [← this]
theorem text_quiet (ad : Option Addr) (n cap : Nat) (xs : List Nat) (r : ByteArray) (w : World) (h : RunesAt w ad xs) (hn : xs.length = n) (hr : textOf xs = r) :
    ∀ m, Calls Tryd.prog 18 #[.slice ad n cap] (w.drewN m) fun e w' => e = .returned (.string r) ∧ w' = w.drewN m := fun m => by
  subst hn
  subst hr
  exact (text_any ad cap xs (w.drewN m) (runesAt_drewN h m)).mono fun e w' ⟨he, hw⟩ => ⟨he, hw.symm⟩

set_option maxHeartbeats 2000000 in
set_option maxRecDepth 100000 in
theorem fnInsert_early (s src : ByteArray) (i : Int) (w : World) (hT : Tabs w) (h : 2147483647 < s.size ∨ 2147483647 < src.size ∨ vld s = false ∨ vld src = false) :
    Calls Tryd.prog 7 #[.string s, .string src, .int .i64 i] w fun e w' => e = .returned (.bool true) ∧ Below w.heap.size w w' := by
  by_cases hb : 2147483647 < s.size
  · have hbz : (2147483647 : Int) < (s.size : Int) := by omega
    go_enter Tryd.func7, Tryd.ntmps7
    go_wp2
    go_ret
    exact ⟨rfl, Below.refl _ _⟩
  by_cases hb' : 2147483647 < src.size
  · have hbz : ¬ (2147483647 : Int) < (s.size : Int) := by omega
    have hby : (2147483647 : Int) < (src.size : Int) := by omega
    go_enter Tryd.func7, Tryd.ntmps7
    go_wp2
    go_ret
    exact ⟨rfl, Below.refl _ _⟩
  have hbz : ¬ (2147483647 : Int) < (s.size : Int) := by omega
  have hby : ¬ (2147483647 : Int) < (src.size : Int) := by omega
  cases hv : vld s with
  | false =>
    have cV : ∀ w, Tabs w → Calls Tryd.prog 12 #[.string s] w fun e w' => e = .returned (.bool false) ∧ Below w.heap.size w w' := fun w hT => hv ▸ valid_any s w (by omega) hT
    have HV := Lib.hid cV
    clear cV hv h
    go_enter Tryd.func7, Tryd.ntmps7
    go_wp2_with (go_at_call 19; (with_reducible refine (ac_any _ hT).mono ?_); rintro e w1 ⟨rfl, hb1⟩)
    have hT1 := hT.below hb1
    go_wp2_with (go_at_call 12; (with_reducible refine (HV.out _ hT1).mono ?_); rintro e w2 ⟨rfl, hb2⟩)
    go_ret
    exact ⟨rfl, bthen hb1 hb2⟩
  | true =>
    have hv2 : vld src = false := by
      rcases h with h | h | h | h
      · exact absurd h hb
      · exact absurd h hb'
      · rw [hv] at h; cases h
      · exact h
    have cV : ∀ w, Tabs w → Calls Tryd.prog 12 #[.string s] w fun e w' => e = .returned (.bool true) ∧ Below w.heap.size w w' := fun w hT => hv ▸ valid_any s w (by omega) hT
    have cU : ∀ w, Tabs w → Calls Tryd.prog 12 #[.string src] w fun e w' => e = .returned (.bool false) ∧ Below w.heap.size w w' := fun w hT => hv2 ▸ valid_any src w (by omega) hT
    have HV := Lib.hid cV
    have HU := Lib.hid cU
    clear cV cU hv hv2 h
    go_enter Tryd.func7, Tryd.ntmps7
    go_wp2_with (go_at_call 19; (with_reducible refine (ac_any _ hT).mono ?_); rintro e w1 ⟨rfl, hb1⟩)
    have hT1 := hT.below hb1
    go_wp2_with (go_at_call 12; (with_reducible refine (HV.out _ hT1).mono ?_); rintro e w2 ⟨rfl, hb2⟩)
    have hT2 := hT1.below hb2
    go_wp2_with (go_at_call 12; (with_reducible refine (HU.out _ hT2).mono ?_); rintro e w3 ⟨rfl, hb3⟩)
    go_ret
    exact ⟨rfl, bthen (bthen hb1 hb2) hb3⟩

set_option maxHeartbeats 4000000 in
set_option maxRecDepth 100000 in
theorem fnInsert_bad (s src : ByteArray) (i : Int) (w : World) (b1 : -9223372036854775808 ≤ i ∧ i ≤ 9223372036854775807) (hT : Tabs w) (hv : vld s = true) (hv2 : vld src = true) (hbad : insBad (segs s.data.toList).length i = true) :
    Calls Tryd.prog 7 #[.string s, .string src, .int .i64 i] w fun e w' => e = .returned (.bool true) ∧ Below w.heap.size w w' := by
  have hle := (vld_ok' hv).1
  have hle2 := (vld_ok' hv2).1
  have hbz : ¬ (2147483647 : Int) < (s.size : Int) := by omega
  have hby : ¬ (2147483647 : Int) < (src.size : Int) := by omega
  have cV : ∀ w, Tabs w → Calls Tryd.prog 12 #[.string s] w fun e w' => e = .returned (.bool true) ∧ Below w.heap.size w w' := fun w hT => hv ▸ valid_any s w (by omega) hT
  have cU : ∀ w, Tabs w → Calls Tryd.prog 12 #[.string src] w fun e w' => e = .returned (.bool true) ∧ Below w.heap.size w w' := fun w hT => hv2 ▸ valid_any src w (by omega) hT
  obtain ⟨XS, hXS⟩ : ∃ XS, rnsOf s.data.toList = XS := ⟨_, rfl⟩
  have hXL : XS.length = (segs s.data.toList).length := by rw [← hXS]; simp [rnsOf]
  have hXs : XS.length ≤ 4096 := by rw [hXL]; have := segs_le s; omega
  have cR : ∀ w, Calls Tryd.prog 14 #[.string s] w fun e w' => ∃ ad cap, e = .returned (.slice ad XS.length cap) ∧ w'.ownsRow (w.heap.size + 1) 21 1 (.slice ad XS.length cap) XS.length (rcells XS) ∧ Below w.heap.size w w' := fun w => hXS ▸ runes_slice s w (by omega)
  have cS : ∀ w, Tabs w → Calls Tryd.prog 19 #[.string s, .string src, .int .i64 i] w fun e w' => e = .returned (.tuple #[.string ⟨#[]⟩, .bool false]) ∧ Below w.heap.size w w' := fun w hT => implInsert_bad s src i w (by omega) (by omega) b1 hT hbad
  rw [← hXL] at hbad
  generalize XS.length = n at hXs cR hbad
  have HV := Lib.hid cV
  have HU := Lib.hid cU
  have HR := Lib.hid cR
  have HS := Lib.hid cS
  clear cV cU cR cS hXL hXS hv hv2 hle hle2
  have hcase : i < 0 ∨ (0 ≤ i ∧ (n : Int) < i) := by
    simp [insBad] at hbad; omega
  clear hbad
  rcases hcase with c | ⟨c1, c2⟩
  all_goals
    go_enter Tryd.func7, Tryd.ntmps7
    go_wp2_with (go_at_call 19; (with_reducible refine (ac_any _ hT).mono ?_); rintro e w1 ⟨rfl, hb1⟩)
    have hT1 := hT.below hb1
    go_wp2_with (go_at_call 12; (with_reducible refine (HV.out _ hT1).mono ?_); rintro e w2 ⟨rfl, hb2⟩)
    have hT2 := hT1.below hb2
    go_wp2_with (go_at_call 12; (with_reducible refine (HU.out _ hT2).mono ?_); rintro e w3 ⟨rfl, hb3⟩)
    have hT3 := hT2.below hb3
    go_wp2_with (go_at_call 14; (with_reducible refine (HR.out _).mono ?_); rintro e w4 ⟨ad, cap, rfl, hown, hb4⟩)
    have hT4 := hT3.below hb4
    clear hown
    go_wp2_with (go_at_call 19; (with_reducible refine (HS.out _ hT4).mono ?_); rintro e w5 ⟨rfl, hb5⟩)
    go_ret
    exact ⟨rfl, bthen (bthen (bthen (bthen hb1 hb2) hb3) hb4) hb5⟩

set_option maxHeartbeats 4000000 in
set_option maxRecDepth 100000 in
theorem fnInsert_good (s src : ByteArray) (a0 : Nat) (w : World) (han : a0 ≤ (segs s.data.toList).length) (hT : Tabs w) (hv : vld s = true) (hv2 : vld src = true) :
    Calls Tryd.prog 7 #[.string s, .string src, .int .i64 a0] w fun e w' => e = .returned (.bool true) ∧ Below w.heap.size w w' := by
  have hle := (vld_ok' hv).1
  have hle2 := (vld_ok' hv2).1
  have hbz : ¬ (2147483647 : Int) < (s.size : Int) := by omega
  have hby : ¬ (2147483647 : Int) < (src.size : Int) := by omega
  have cV : ∀ w, Tabs w → Calls Tryd.prog 12 #[.string s] w fun e w' => e = .returned (.bool true) ∧ Below w.heap.size w w' := fun w hT => hv ▸ valid_any s w (by omega) hT
  have cU : ∀ w, Tabs w → Calls Tryd.prog 12 #[.string src] w fun e w' => e = .returned (.bool true) ∧ Below w.heap.size w w' := fun w hT => hv2 ▸ valid_any src w (by omega) hT
  have hgood := segs_good s.data.toList (vld_ok' hv).2
  have hflat := segs_flatten s.data.toList
  have hsl0 := segs_le s
  obtain ⟨CS, hCS⟩ : ∃ CS, segs s.data.toList = CS := ⟨_, rfl⟩
  obtain ⟨XS, hXS⟩ : ∃ XS, rnsOf s.data.toList = XS := ⟨_, rfl⟩
  have hXC : XS = CS.map runeOf := by rw [← hXS, ← hCS]; rfl
  have hXL : XS.length = CS.length := by rw [hXC]; simp
  rw [hCS] at hgood hflat hsl0 han
  obtain ⟨n, hn⟩ : ∃ n, XS.length = n := ⟨_, rfl⟩
  have hnb : ¬ insBad CS.length a0 = true := by simp [insBad]; omega
  have cR : ∀ w, Calls Tryd.prog 14 #[.string s] w fun e w' => ∃ ad cap, e = .returned (.slice ad XS.length cap) ∧ w'.ownsRow (w.heap.size + 1) 21 1 (.slice ad XS.length cap) XS.length (rcells XS) ∧ Below w.heap.size w w' := fun w => hXS ▸ runes_slice s w (by omega)
  obtain ⟨p, hp⟩ : ∃ p : ByteArray, ⟨(CS.take a0).flatten.toArray⟩ = p := ⟨_, rfl⟩
  obtain ⟨q, hq⟩ : ∃ q : ByteArray, ⟨(CS.drop a0).flatten.toArray⟩ = q := ⟨_, rfl⟩
  have h2 : CS.flatten = (CS.take a0).flatten ++ (CS.drop a0).flatten := by rw [← List.flatten_append, List.take_append_drop]
  have hps : p.size ≤ 4096 := by
    rw [← hp, mk_size]; have := congrArg List.length h2; rw [hflat, List.length_append, ← Lib.size_eq] at this; omega
  have hqs : q.size ≤ 4096 := by
    rw [← hq, mk_size]; have := congrArg List.length h2; rw [hflat, List.length_append, ← Lib.size_eq] at this; omega
  have hr : (⟨(insB CS src a0).toArray⟩ : ByteArray) = (p ++ src) ++ q := by
    rw [← hp, ← hq]
    apply ByteArray.ext
    apply Array.toList_inj.1
    simp [insB]
  have cS : ∀ w, Tabs w → Calls Tryd.prog 19 #[.string s, .string src, .int .i64 a0] w fun e w' => e = .returned (.tuple #[.string ((p ++ src) ++ q), .bool true]) ∧ Below w.heap.size w w' := fun w hT => by
    have := implInsert_good s src a0 w (by omega) (by omega) (by omega) hT (by rw [hCS]; exact hnb)
    rwa [hCS, hr] at this
  have t1 : textOf ((XS.take a0).drop 0) = p := by
    rw [List.drop_zero, hXC, List.map_take.symm, textOf_flat _ (fun c hc => hgood c (List.mem_of_mem_take hc)), hp]
  have t2 : textOf ((XS.take n).drop a0) = q := by
    rw [List.take_of_length_le (by omega), hXC, List.map_drop.symm, textOf_flat _ (fun c hc => hgood c (List.mem_of_mem_drop hc)), hq]
  have l1 : ((XS.take a0).drop 0).length = a0 := by rw [List.drop_zero, List.length_take]; omega
  have l2 : ((XS.take n).drop a0).length = n - a0 := by rw [List.length_drop, List.length_take]; omega
  have ha : a0 ≤ n := by omega
  have hXs : n ≤ 4096 := by omega
  have HV := Lib.hid cV
  have HU := Lib.hid cU
  have HR := Lib.hid cR
  have HS := Lib.hid cS
  have T1 := Lib.hid t1
  have T2 := Lib.hid t2
  have L1 := Lib.hid l1
  have L2 := Lib.hid l2
  have HN := Lib.hid hn
  have hA : p.size + src.size ≤ 9223372036854775807 := by omega
  have hB : p.size + src.size + q.size ≤ 9223372036854775807 := by omega
  rw [hn] at HR
  clear cV cU cR cS hXC hXL hXS hv hv2 hle hle2 hr hp hq h2 t1 t2 l1 l2 hgood hflat hsl0 hCS hnb hn han
  go_enter Tryd.func7, Tryd.ntmps7
  go_wp2_with (go_at_call 19; (with_reducible refine (ac_any _ hT).mono ?_); rintro e w1 ⟨rfl, hb1⟩)
  have hT1 := hT.below hb1
  go_wp2_with (go_at_call 12; (with_reducible refine (HV.out _ hT1).mono ?_); rintro e w2 ⟨rfl, hb2⟩)
  have hT2 := hT1.below hb2
  go_wp2_with (go_at_call 12; (with_reducible refine (HU.out _ hT2).mono ?_); rintro e w3 ⟨rfl, hb3⟩)
  have hT3 := hT2.below hb3
  go_wp2_with (go_at_call 14; (with_reducible refine (HR.out _).mono ?_); rintro e w4 ⟨ad, cap, rfl, hown, hb4⟩)
  have hT4 := hT3.below hb4
  have hw4 : Below w.heap.size w w4 := bthen (bthen (bthen hb1 hb2) hb3) hb4
  rw [← HN.out] at hown
  have hlt := hown.lt
  have hR := runesAt_parts hown
  rw [HN.out] at hR
  clear hown hb1 hb2 hb3 hb4 hT1 hT2 hT3
  rcases hR with ⟨rfl, rfl, hx⟩ | ⟨g, rfl, hnc, hcm, hra⟩
  · have hn0 : n = 0 := by rw [← HN.out, hx]; rfl
    have ha0 : a0 = 0 := by omega
    subst ha0
    subst hn0
    go_wp2_with (go_at_call 19; (with_reducible refine (HS.out _ hT4).mono ?_); rintro e w5 ⟨rfl, hb5⟩)
    have d1 := text_quiet none 0 0 ((XS.take 0).drop 0) p w5 (by simp [RunesAt]) L1.out T1.out
    have e2 : p = q := by rw [← T1.out, ← T2.out]
    subst e2
    have D1 := Lib.hid d1
    clear d1
    go_quiet ((go_at_call 18; exact Calls.quiet_of_same (D1.out _)))
    go_wp2
    go_ret
    exact ⟨rfl, (bthen hw4 hb5).trans (below_drewN (Below.refl _ _) _)⟩
  · have hg4 : g < w4.heap.size := (hlt g rfl).2
    go_wp2_with (go_at_call 19; (with_reducible refine (HS.out _ hT4).mono ?_); rintro e w5 ⟨rfl, hb5⟩)
    have D1 := Lib.hid (text_quiet (some ⟨g, 0, none⟩) a0 cap _ p w5 (runesAt_below (hra 0 a0) hb5 hg4) L1.out T1.out)
    by_cases hca : cap = a0
    · subst hca
      obtain rfl : n = cap := by omega
      have hl : (XS.take n).drop n = [] := List.eq_nil_of_length_eq_zero (by rw [L2.out]; omega)
      have hq : textOf [] = q := by have := T2.out; rwa [hl] at this
      have D2 := Lib.hid (text_quiet (some ⟨g, 0, none⟩) 0 0 [] q w5 (fun j x hj => by simp at hj) rfl hq)
      clear hra hl hq hnc ha
      go_quiet ((go_at_call 18; first | (with_reducible exact Calls.quiet_of_same (D1.out _)) | (with_reducible exact Calls.quiet_of_same (D2.out _))))
      go_wp2
      go_ret
      exact ⟨rfl, (bthen hw4 hb5).trans (below_drewN (Below.refl _ _) _)⟩
    · have D2 := Lib.hid (text_quiet (some ⟨g, a0, none⟩) (n - a0) (cap - a0) _ q w5 (runesAt_below (hra a0 n) hb5 hg4) L2.out T2.out)
      clear hra
      go_quiet ((go_at_call 18; first | (with_reducible exact Calls.quiet_of_same (D1.out _)) | (with_reducible exact Calls.quiet_of_same (D2.out _))))
      go_wp2
      go_ret
      exact ⟨rfl, (bthen hw4 hb5).trans (below_drewN (Below.refl _ _) _)⟩

theorem fnInsert_walk (s src : ByteArray) (i : Int) (w : World) (_h1 : s.size ≤ 140737488351232) (_h2 : src.size ≤ 140737488351232) (h3 : (Lit.int .i64 i).wf = true) (hT : Tabs w) :
    Calls Tryd.prog 7 #[.string s, .string src, .int .i64 i] w fun e w' => e = .returned (.bool true) ∧ Below w.heap.size w w' := by
  have b1 := i64_bd' h3
  by_cases h : 2147483647 < s.size ∨ 2147483647 < src.size ∨ vld s = false ∨ vld src = false
  · exact fnInsert_early s src i w hT h
  · have hv : vld s = true := by
      cases hv : vld s with
      | true => rfl
      | false => exact absurd (.inr (.inr (.inl hv))) h
    have hv2 : vld src = true := by
      cases hv : vld src with
      | true => rfl
      | false => exact absurd (.inr (.inr (.inr hv))) h
    by_cases hb : insBad (segs s.data.toList).length i = true
    · exact fnInsert_bad s src i w b1 hT hv hv2 hb
    · have hc : 0 ≤ i ∧ i ≤ (segs s.data.toList).length := by simp [insBad] at hb; omega
      obtain ⟨a0, rfl⟩ : ∃ a0 : Nat, i = a0 := ⟨i.toNat, by omega⟩
      exact fnInsert_good s src a0 w (by omega) hT hv hv2
end Go.Proofs.YtobcoplfniojkaaDoor
