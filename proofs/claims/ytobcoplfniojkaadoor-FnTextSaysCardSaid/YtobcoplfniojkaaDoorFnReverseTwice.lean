/- The walk of the law FnReverseTwice: a text of UTF-8 that is turned round twice is the text. -/
import Derived.Test.YtobcoplfniojkaaDoorReverse
namespace Go.Proofs.YtobcoplfniojkaaDoor
open Go.RowKit Plain

theorem segs_revB (l : List UInt8) (h : Lib.validD l = true) : segs (revB l) = (segs l).reverse := by
  unfold revB
  exact segs_of_good _ (fun c hc => segs_good l h c (by simpa using hc))
theorem revB_revB (l : List UInt8) (h : Lib.validD l = true) : revB (revB l) = l := by
  show (segs (revB l)).reverse.flatten = l
  rw [segs_revB l h, List.reverse_reverse, segs_flatten]
theorem flatten_length_reverse (cs : List (List UInt8)) : cs.reverse.flatten.length = cs.flatten.length := by
  induction cs with
  | nil => rfl
  | cons c cs ih => simp only [List.reverse_cons, List.flatten_append, List.length_append, List.flatten_cons, ih]; simp; omega
theorem revB_length (l : List UInt8) : (revB l).length = l.length := by
  unfold revB
  rw [flatten_length_reverse, segs_flatten]
/-- the text turned round -/
def revS (s : ByteArray) : ByteArray := ⟨(revB s.data.toList).toArray⟩
theorem revS_size (s : ByteArray) : (revS s).size = s.size := by
  rw [Lib.size_eq, Lib.size_eq]
  show (revB s.data.toList).toArray.toList.length = _
  rw [List.toList_toArray, revB_length]
theorem revS_list (s : ByteArray) : (revS s).data.toList = revB s.data.toList := by
  unfold revS
  simp
theorem mk_list (s : ByteArray) : (⟨s.data.toList.toArray⟩ : ByteArray) = s := by cases s; simp
theorem revS_revS (s : ByteArray) (h : Lib.validD s.data.toList = true) : revS (revS s) = s := by
  unfold revS
  dsimp only
  rw [revB_revB _ h, mk_list]
theorem vld_valid {s : ByteArray} (h : vld s = true) : s.size ≤ 4096 ∧ Lib.validD s.data.toList = true := by
  simpa [vld] using h

set_option maxRecDepth 100000 in
theorem implReverse_any (s : ByteArray) (w : World) (hs : s.size ≤ 2147483647) (hT : Tabs w) :
    Calls Tryd.prog 15 #[.string s] w fun e w' => e = .returned (.string (revS s)) ∧ Below w.heap.size w w' := by
  go_enter Tryd.func15, Tryd.ntmps15
  go_wp2_with (go_at_call 40; refine (reverse_any s _ hs hT).mono ?_; rintro e w1 ⟨rfl, hb⟩)
  go_ret
  exact ⟨rfl, hb⟩
theorem rev_ab : revS ⟨#[97, 98]⟩ = ⟨#[98, 97]⟩ := by decide +kernel

set_option maxHeartbeats 1000000 in
set_option maxRecDepth 100000 in
theorem fnReverseTwice_walk (s : ByteArray) (w : World) (_hs : s.size ≤ 140737488351232) (hT : Tabs w) :
    Calls Tryd.prog 4 #[.string s] w fun e w' => e = .returned (.bool true) ∧ Below w.heap.size w w' := by
  have cA : ∀ w, Tabs w → Calls Tryd.prog 15 #[.string ⟨#[97, 98]⟩] w fun e w' => e = .returned (.string ⟨#[98, 97]⟩) ∧ Below w.heap.size w w' := fun w hT => rev_ab ▸ implReverse_any ⟨#[97, 98]⟩ w (by decide) hT
  by_cases hb : 2147483647 < s.size
  · have hbz : (2147483647 : Int) < (s.size : Int) := by omega
    go_enter Tryd.func4, Tryd.ntmps4
    go_wp2
    go_ret
    exact ⟨rfl, Below.refl _ _⟩
  · have hbz : ¬ (2147483647 : Int) < (s.size : Int) := by omega
    have hle : s.size ≤ 2147483647 := by omega
    have HA := Lib.hid cA
    clear cA
    cases hv : vld s with
    | false =>
      have cV : ∀ w, Tabs w → Calls Tryd.prog 12 #[.string s] w fun e w' => e = .returned (.bool false) ∧ Below w.heap.size w w' := fun w hT => hv ▸ valid_any s w hle hT
      have HV := Lib.hid cV
      clear cV hv
      go_enter Tryd.func4, Tryd.ntmps4
      go_wp2_with (go_at_call 15; refine (HA.out _ hT).mono ?_; rintro e w1 ⟨rfl, hb1⟩)
      have hT1 := hT.below hb1
      go_wp2_with (go_at_call 12; refine (HV.out _ hT1).mono ?_; rintro e w2 ⟨rfl, hb2⟩)
      go_ret
      exact ⟨rfl, bthen hb1 hb2⟩
    | true =>
      have cV : ∀ w, Tabs w → Calls Tryd.prog 12 #[.string s] w fun e w' => e = .returned (.bool true) ∧ Below w.heap.size w w' := fun w hT => hv ▸ valid_any s w hle hT
      obtain ⟨r, hr⟩ : ∃ r, revS s = r := ⟨_, rfl⟩
      have cR : ∀ w, Tabs w → Calls Tryd.prog 15 #[.string s] w fun e w' => e = .returned (.string r) ∧ Below w.heap.size w w' := fun w hT => hr ▸ implReverse_any s w hle hT
      have cB : ∀ w, Tabs w → Calls Tryd.prog 15 #[.string r] w fun e w' => e = .returned (.string s) ∧ Below w.heap.size w w' := fun w hT => by
        have := implReverse_any r w (by rw [← hr, revS_size]; exact hle) hT
        rwa [← hr, revS_revS s (vld_valid hv).2, hr] at this
      have HV := Lib.hid cV
      have HR := Lib.hid cR
      have HB := Lib.hid cB
      clear cV cR cB hv hr
      go_enter Tryd.func4, Tryd.ntmps4
      go_wp2_with (go_at_call 15; refine (HA.out _ hT).mono ?_; rintro e w1 ⟨rfl, hb1⟩)
      have hT1 := hT.below hb1
      go_wp2_with (go_at_call 12; refine (HV.out _ hT1).mono ?_; rintro e w2 ⟨rfl, hb2⟩)
      have hT2 := hT1.below hb2
      go_wp2_with (go_at_call 15; refine (HR.out _ hT2).mono ?_; rintro e w3 ⟨rfl, hb3⟩)
      have hT3 := hT2.below hb3
      go_wp2_with (go_at_call 15; refine (HB.out _ hT3).mono ?_; rintro e w4 ⟨rfl, hb4⟩)
      go_ret
      exact ⟨rfl, bthen (bthen (bthen hb1 hb2) hb3) hb4⟩
end Go.Proofs.YtobcoplfniojkaaDoor
