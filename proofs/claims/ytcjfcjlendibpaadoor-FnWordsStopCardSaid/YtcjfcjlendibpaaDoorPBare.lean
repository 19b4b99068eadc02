/- laws.bare. -/
import Derived.Test.YtcjfcjlendibpaaDoorPMark
set_option linter.unusedVariables false
namespace Go.Proofs.YtcjfcjlendibpaaDoor
open Go.RowKit Plain Go.Proofs.YtcjfcjlendibpaaDoorW.PrintWords

theorem size_at (A : Option Addr) (n c : Nat) (l : List ByteArray) (w : World) (hk : Kd.string.C w A n l) (hn : l.length = n) (hc : n ≤ c) (hl : l.length ≤ 2147483647) (hf : fitsR l = true) (S : Nat) (hS : l.length + szSum l = S) :
    Calls Tryd.prog 27 #[.slice A n c] w fun e w' => e = .returned (.int .i64 (S : Int)) ∧ Below w.heap.size w w' := by
  subst hn
  exact (PFnWordsQuoted.laws_size.calls (l.length + 1) A c l _ w hk hc (by rw [size_f l hl hf (l.length + 1) (by omega), hS])).mono fun e w' ⟨he, hd⟩ => ⟨he, hd.below⟩
def bareP (x : ByteArray) : Prop := x.size ≠ 0 ∧ ∀ c ∈ x.data.toList, plainC c.toNat = true
def BarePost (l : List ByteArray) (w : World) (e : Ending) (w' : World) : Prop := ∃ b, e = .returned (.bool b) ∧ (b = true → (∀ x ∈ l, bareP x) ∧ l.length + szSum l ≤ 1000) ∧ Below w.heap.size w w'
set_option maxHeartbeats 2000000 in
set_option maxRecDepth 100000 in
theorem bare_any (A : Option Addr) (n c : Nat) (l : List ByteArray) (w : World) (hk : Kd.string.C w A n l) (hn : l.length = n) (hc : n ≤ c) (hl : l.length ≤ 2147483647) (hf : fitsR l = true) :
    Calls Tryd.prog 19 #[.slice A n c] w (BarePost l w) := by
  have hsz := szSum_le l 2147483647 (fun x hx => by have := List.all_eq_true.1 hf x hx; simpa using this)
  have hsz2 : l.length * 2147483647 ≤ 2147483647 * 2147483647 := Nat.mul_le_mul_right _ hl
  obtain ⟨S, hS⟩ : ∃ S, l.length + szSum l = S := ⟨_, rfl⟩
  have hS63 : S ≤ 4611686018427387904 + 2147483647 := by omega
  have hfx : ∀ x ∈ l, x.size ≤ 2147483647 := fun x hx => by have := List.all_eq_true.1 hf x hx; simpa using this
  have HFX := Lib.hid hfx
  have HSA := Lib.hid (fun W (hb : Below w.heap.size w W) => size_at A n c l W (Kd.C_below hk hb) hn hc hl hf S hS)
  have HS := Lib.hid hS
  have HK := Lib.hid hk
  have HN := Lib.hid hn
  have hn31 : n ≤ 2147483647 := by omega
  clear hS hk hn hl hf hsz hsz2 hfx
  go_enter Tryd.func19, Tryd.ntmps19
  go_wp2
  go_loopg [8] n (fun gh vi wr => ∃ k : Nat, vi = .int .i64 k ∧ k ≤ n ∧ gh = n - k ∧ Hid (∀ x ∈ l.take k, bareP x) ∧ Hid (Below w.heap.size w wr))
  case atStart => exact ⟨0, rfl, Nat.zero_le _, rfl, Lib.hid (by simp), Lib.hid (Below.refl _ _)⟩
  case round =>
    obtain ⟨k, rfl, hkn, rfl, HP, HB⟩ := hrel
    by_cases hlt : k < n
    · have hkz : (k : Int) < (n : Int) := by omega
      have hkl : k < l.length := by rw [HN.out]; exact hlt
      have hk2 := Kd.C_below HK.out HB.out
      obtain ⟨ad, rfl, hcell⟩ := Kd.at_string hk2 (k : Int) (by omega) hkz
      rw [rd_at hkl] at hcell
      have hcell2 : wr.cell? (ad.add k) = some (.string l[k]) := hcell
      have hxs : l[k].size ≤ 2147483647 := HFX.out _ (List.getElem_mem hkl)
      have hsnoc := take_snoc hkl
      obtain ⟨X, hX⟩ : ∃ X, l[k] = X := ⟨_, rfl⟩
      rw [hX] at hcell2 hxs hsnoc
      have HSN := Lib.hid hsnoc
      clear hsnoc hk2 hcell hX hkl
      by_cases hx0 : X.size = 0
      · obtain rfl := ba_empty hx0
        go_wp2_with fail
        go_ret
        exact ⟨false, rfl, (fun h => by cases h), HB.out⟩
      have hxe : X.toList.isEmpty = false := by
        rw [Lib.toList_data]
        cases h9 : X.data.toList with
        | nil => exact absurd (by rw [Lib.size_eq, h9]; rfl) hx0
        | cons a b => rfl
      obtain ⟨m, hm⟩ : ∃ m, X.size = m := ⟨_, rfl⟩
      rw [hm] at hxs hx0
      have HM := Lib.hid hm
      have hmz : (X.size : Int) = (m : Int) := by omega
      clear hm
      go_wp2_with fail
      go_loopg [5] m (fun gh vi wq => ∃ j : Nat, vi = .int .i64 j ∧ j ≤ m ∧ gh = m - j ∧ Hid (∀ c ∈ X.data.toList.take j, plainC c.toNat = true) ∧ Hid (Below w.heap.size w wq))
      case atStart => exact ⟨0, rfl, Nat.zero_le _, rfl, Lib.hid (by simp), HB⟩
      case round =>
        clear hcell2
        obtain ⟨j, rfl, hjm, rfl, HQ, HBQ⟩ := hrel
        by_cases hjl : j < m
        · have hjz : (j : Int) < (m : Int) := by omega
          have hjX : j < X.data.toList.length := by rw [← Lib.size_eq, HM.out]; exact hjl
          have hst : X.data.toList.take (j + 1) = X.data.toList.take j ++ [X.data.toList[j]] := take_snoc hjX
          obtain ⟨ch, hch⟩ : ∃ ch, X.data.toList[j] = ch := ⟨_, rfl⟩
          rw [hch] at hst
          obtain ⟨C, hC⟩ : ∃ C : Nat, ch.toNat = C := ⟨_, rfl⟩
          have hidx : ∀ h : (j : Int).toNat < X.size, ((X[(j : Int).toNat]'h).toNat : Int) = (C : Int) := fun h => by rw [← hC, ← hch]; rfl
          have hidx2 : ∀ h : j < X.size, ((X[j]'h).toNat : Int) = (C : Int) := fun h => hidx h
          have hC256 : C < 256 := by have := ch.toNat_lt; omega
          have HST := Lib.hid hst
          have HCC := Lib.hid hC
          have HMK := Lib.hid (fun W => mark_any C (C : Int) rfl W hC256)
          clear hst hC hch hjX
          go_wp2_with (go_at_call 28; (with_reducible refine (HMK.out _).mono ?_))
          intro e w4 hp
          obtain ⟨b, rfl, hb, hb4⟩ := hp
          dsimp only
          have HB4 := Lib.hid (HBQ.out.trans (hb4.mono HBQ.out.size))
          clear hb4
          cases b with
          | true =>
            go_wp2_with fail
            go_ret
            exact ⟨false, rfl, (fun h => by cases h), HB4.out⟩
          | false =>
            have HPC := Lib.hid (hb rfl)
            clear hb
            go_wp2_with fail
            go_roundg (m - (j + 1))
            case measure => omega
            case rel =>
              refine ⟨j + 1, by go_num, by omega, rfl, Lib.hid ?_, HB4⟩
              rw [HST.out]
              intro c hc
              rcases List.mem_append.1 hc with hc | hc
              · exact HQ.out c hc
              · simp at hc; subst hc; rw [HCC.out]; exact HPC.out
        · have hjz : ¬ (j : Int) < (m : Int) := by omega
          obtain rfl : j = m := by omega
          have HX := Lib.hid (show bareP X from ⟨by rw [HM.out]; exact hx0, by
            have := HQ.out
            rwa [List.take_of_length_le (by rw [← Lib.size_eq, HM.out]; exact Nat.le_refl _)] at this⟩)
          go_wp2_with fail
          go_roundg (n - (k + 1))
          case measure => omega
          case rel =>
            refine ⟨k + 1, by go_num, by omega, rfl, Lib.hid ?_, HBQ⟩
            rw [HSN.out]
            intro x hx
            rcases List.mem_append.1 hx with hx | hx
            · exact HP.out x hx
            · simp at hx; subst hx; exact HX.out
    · have hkz : ¬ (k : Int) < (n : Int) := by omega
      obtain rfl : k = n := by omega
      have HC2 := Lib.hid (HSA.out _ HB.out)
      have hP := HP.out
      rw [List.take_of_length_le (by rw [HN.out]; exact Nat.le_refl _)] at hP
      have HPP := Lib.hid hP
      clear hP
      by_cases hs : S ≤ 1000
      · have hsz : (S : Int) ≤ 1000 := by omega
        go_wp2_with (go_at_call 27; (with_reducible refine HC2.out.mono ?_); rintro e w5 ⟨rfl, hb5⟩; dsimp only)
        go_ret
        exact ⟨true, rfl, fun _ => ⟨HPP.out, by rw [HS.out]; exact hs⟩, HB.out.trans (hb5.mono HB.out.size)⟩
      · have hsz : ¬ (S : Int) ≤ 1000 := by omega
        go_wp2_with (go_at_call 27; (with_reducible refine HC2.out.mono ?_); rintro e w5 ⟨rfl, hb5⟩; dsimp only)
        go_ret
        exact ⟨false, rfl, (fun h => by cases h), HB.out.trans (hb5.mono HB.out.size)⟩
end Go.Proofs.YtcjfcjlendibpaaDoor
