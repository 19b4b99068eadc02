/- The walk of the law FnSwapTwice. -/
import Derived.Test.YtdomnccokhhieaaDoorSwap
namespace Go.Proofs.YtdomnccokhhieaaDoor
open Go.RowKit Plain

def swS (s : ByteArray) : ByteArray := ⟨(s.data.toList.map swU).toArray⟩
def Asc (s : ByteArray) : Prop := ∀ b ∈ s.data.toList, b.toNat < 128
theorem swS_size (s : ByteArray) : (swS s).size = s.size := by rw [Lib.size_eq, Lib.size_eq]; simp [swS]
theorem implSwap_any (s : ByteArray) (w : World) (hs : s.size ≤ 2147483647) (ha : Asc s) (hP : PTab w) :
    Calls Tryd.prog 23 #[.string s] w fun e w' => e = .returned (.string (swS s)) ∧ Below w.heap.size w w' := by
  have cC := Lib.hid (swap_any s w hs ha hP)
  clear ha
  go_enter Tryd.func23, Tryd.ntmps23
  go_wp2_with (go_at_call 42; (with_reducible refine cC.out.mono ?_); rintro e w1 ⟨rfl, hb⟩; dsimp only)
  go_wp2
  go_ret
  exact ⟨rfl, hb⟩
theorem aB_eq : swS ⟨#[97, 66, 49]⟩ = ⟨#[65, 98, 49]⟩ := by decide +kernel
theorem aB_any (w : World) (hP : PTab w) : Calls Tryd.prog 23 #[.string ⟨#[97, 66, 49]⟩] w fun e w' => e = .returned (.string ⟨#[65, 98, 49]⟩) ∧ Below w.heap.size w w' := by
  have := implSwap_any ⟨#[97, 66, 49]⟩ w (by decide) (by unfold Asc; decide +kernel) hP
  rwa [aB_eq] at this
theorem sw_all : ∀ c : Fin 128, (swU c.val.toUInt8).toNat < 128 ∧ swU (swU c.val.toUInt8) = c.val.toUInt8 := by decide +kernel
theorem sw_at (b : UInt8) (h : b.toNat < 128) : (swU b).toNat < 128 ∧ swU (swU b) = b := by
  have := sw_all ⟨b.toNat, h⟩
  simpa using this
theorem swS_asc {s : ByteArray} (h : Asc s) : Asc (swS s) := by
  intro b hb
  simp only [swS, List.mem_map] at hb
  obtain ⟨x, hx, rfl⟩ := hb
  exact (sw_at x (h x hx)).1
theorem swS_swS {s : ByteArray} (h : Asc s) : swS (swS s) = s := by
  apply ByteArray.ext
  apply Array.toList_inj.1
  simp only [swS, List.map_map]
  exact (List.map_congr_left fun b hb => (sw_at b (h b hb)).2).trans (List.map_id _)
theorem swS_append (a b : ByteArray) : swS (a ++ b) = swS a ++ swS b := by
  apply ByteArray.ext
  apply Array.toList_inj.1
  simp [swS]
theorem asc_append {a b : ByteArray} (ha : Asc a) (hb : Asc b) : Asc (a ++ b) := by
  intro x hx
  simp at hx
  rcases hx with hx | hx
  · exact ha x (by simpa using hx)
  · exact hb x (by simpa using hx)
def plB (s : ByteArray) : Bool := decide (∀ b ∈ s.data.toList, b.toNat < 128) && decide (s.size ≤ 4096)
theorem plB_ok {s : ByteArray} (h : plB s = true) : s.size ≤ 4096 ∧ Asc s := by
  unfold plB at h
  rw [Bool.and_eq_true] at h
  exact ⟨of_decide_eq_true h.2, (of_decide_eq_true h.1 : ∀ b ∈ s.data.toList, b.toNat < 128)⟩
theorem plB_any (s : ByteArray) (hs : s.size ≤ 140737488355328) (b : Bool) (h : plB s = b) (w : World) :
    Calls Tryd.prog 24 #[.string s] w fun e w' => e = .returned (.bool b) ∧ w' = w := by
  have := plain_any s w hs
  subst h
  exact this

set_option maxHeartbeats 2000000 in
set_option maxRecDepth 100000 in
theorem fnSwapTwice_walk (s p : ByteArray) (w : World) (hs0 : s.size ≤ 140737488351232) (hp0 : p.size ≤ 140737488351232) (_hT : Tabs w) (hP : PTab w) :
    Calls Tryd.prog 8 #[.string s, .string p] w fun e w' => e = .returned (.bool true) ∧ Below w.heap.size w w' := by
  by_cases hb : 2147483647 < s.size
  · have hbz : (2147483647 : Int) < (s.size : Int) := by omega
    go_enter Tryd.func8, Tryd.ntmps8
    go_wp2
    go_ret
    exact ⟨rfl, Below.refl _ _⟩
  by_cases hb' : 2147483647 < p.size
  · have hbz : ¬ (2147483647 : Int) < (s.size : Int) := by omega
    have hby : (2147483647 : Int) < (p.size : Int) := by omega
    go_enter Tryd.func8, Tryd.ntmps8
    go_wp2
    go_ret
    exact ⟨rfl, Below.refl _ _⟩
  have hbz : ¬ (2147483647 : Int) < (s.size : Int) := by omega
  have hby : ¬ (2147483647 : Int) < (p.size : Int) := by omega
  cases hv : plB s with
  | false =>
    have HV := Lib.hid (plB_any s (by omega) _ hv)
    clear hv
    go_enter Tryd.func8, Tryd.ntmps8
    go_wp2_with (go_at_call 23; (with_reducible refine (aB_any _ hP).mono ?_); rintro e w1 ⟨rfl, hb1⟩; dsimp only)
    have hP1 := hP.below hb1
    go_wp2_with (go_at_call 24; (with_reducible refine (HV.out _).mono ?_); rintro e w9 ⟨rfl, rfl⟩; dsimp only)
    go_wp2
    go_ret
    exact ⟨rfl, hb1⟩
  | true =>
    have HV := Lib.hid (plB_any s (by omega) _ hv)
    cases hv2 : plB p with
    | false =>
      have HU := Lib.hid (plB_any p (by omega) _ hv2)
      clear hv hv2
      go_enter Tryd.func8, Tryd.ntmps8
      go_wp2_with (go_at_call 23; (with_reducible refine (aB_any _ hP).mono ?_); rintro e w1 ⟨rfl, hb1⟩; dsimp only)
      have hP1 := hP.below hb1
      go_wp2_with (go_at_call 24; (with_reducible refine (HV.out _).mono ?_); rintro e w9 ⟨rfl, rfl⟩; dsimp only)
      go_wp2_with (go_at_call 24; (with_reducible refine (HU.out _).mono ?_); rintro e w9 ⟨rfl, rfl⟩; dsimp only)
      go_wp2
      go_ret
      exact ⟨rfl, hb1⟩
    | true =>
      have HU := Lib.hid (plB_any p (by omega) _ hv2)
      obtain ⟨hs1, has⟩ := plB_ok hv
      obtain ⟨hp1, hap⟩ := plB_ok hv2
      have e2 := swS_swS has
      have hz := swS_size s
      have c1 := fun w hP => implSwap_any s w (by omega) has hP
      have c2 := fun w hP => implSwap_any (swS s) w (by omega) (swS_asc has) hP
      have c3 := fun w hP => implSwap_any (s ++ p) w (by rw [ByteArray.size_append]; omega) (asc_append has hap) hP
      have c4 := fun w hP => implSwap_any p w (by omega) hap hP
      rw [e2] at c2
      have hz2 := swS_size p
      rw [swS_append] at c3
      generalize swS s = X at c1 c2 c3 hz
      generalize swS p = Y at c3 c4 hz2
      have C1 := Lib.hid c1
      have C2 := Lib.hid c2
      have C3 := Lib.hid c3
      have C4 := Lib.hid c4
      have hA : s.size + p.size ≤ 9223372036854775807 := by omega
      have hB : X.size + Y.size ≤ 9223372036854775807 := by omega
      clear c1 c2 c3 c4 hv hv2 has hap e2
      go_enter Tryd.func8, Tryd.ntmps8
      go_wp2_with (go_at_call 23; (with_reducible refine (aB_any _ hP).mono ?_); rintro e w1 ⟨rfl, hb1⟩; dsimp only)
      have hP1 := hP.below hb1
      go_wp2_with (go_at_call 24; (with_reducible refine (HV.out _).mono ?_); rintro e w9 ⟨rfl, rfl⟩; dsimp only)
      go_wp2_with (go_at_call 24; (with_reducible refine (HU.out _).mono ?_); rintro e w9 ⟨rfl, rfl⟩; dsimp only)
      go_wp2_with (go_at_call 23; (with_reducible refine (C1.out _ hP1).mono ?_); rintro e w2 ⟨rfl, hb2⟩; dsimp only)
      have hP2 := hP1.below hb2
      go_wp2_with (go_at_call 23; (with_reducible refine (C2.out _ hP2).mono ?_); rintro e w3 ⟨rfl, hb3⟩; dsimp only)
      have hP3 := hP2.below hb3
      go_wp2_with (go_at_call 23; (with_reducible refine (C3.out _ hP3).mono ?_); rintro e w4 ⟨rfl, hb4⟩; dsimp only)
      have hP4 := hP3.below hb4
      go_wp2_with (go_at_call 23; (with_reducible refine (C1.out _ hP4).mono ?_); rintro e w5 ⟨rfl, hb5⟩; dsimp only)
      have hP5 := hP4.below hb5
      go_wp2_with (go_at_call 23; (with_reducible refine (C4.out _ hP5).mono ?_); rintro e w6 ⟨rfl, hb6⟩; dsimp only)
      have hP6 := hP5.below hb6
      go_wp2
      go_ret
      exact ⟨rfl, (((((hb1.trans (hb2.mono hb1.size)).trans (hb3.mono (Nat.le_trans hb1.size hb2.size))).trans (hb4.mono (Nat.le_trans (Nat.le_trans hb1.size hb2.size) hb3.size))).trans (hb5.mono (Nat.le_trans (Nat.le_trans (Nat.le_trans hb1.size hb2.size) hb3.size) hb4.size))).trans (hb6.mono (Nat.le_trans (Nat.le_trans (Nat.le_trans (Nat.le_trans hb1.size hb2.size) hb3.size) hb4.size) hb5.size)))⟩
end Go.Proofs.YtdomnccokhhieaaDoor
