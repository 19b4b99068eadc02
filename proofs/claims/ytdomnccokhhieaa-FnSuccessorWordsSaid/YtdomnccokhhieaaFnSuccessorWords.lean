/- The walk of the law FnSuccessorWords. -/
import Derived.Test.YtdomnccokhhieaaImplSucc0
import Derived.Test.YtdomnccokhhieaaAll
import Derived.Deep.RegionWith
import Derived.IntWalk
import Derived.Lib.IndexBytes
set_option linter.unusedVariables false
namespace Go.Proofs.Ytdomnccokhhieaa
open Go.RowKit Plain

def Lo (b : UInt8) : Prop := 97 ≤ b.toNat ∧ b.toNat ≤ 122
theorem mapz (l : List UInt8) (k : Nat) (hz : l.drop k = List.replicate (l.length - k) 122) : l.map (·.toNat) = (l.take k).map (·.toNat) ++ List.replicate (l.length - k) 122 := by
  conv => lhs; rw [← List.take_append_drop k l, hz]
  simp
theorem word_z (l : List UInt8) (hl : 0 < l.length) (hlo : ∀ b ∈ l, Lo b) (hz : l.drop 0 = List.replicate (l.length - 0) 122) : textOf (succR (rnsOf l)) = ⟨(List.replicate (l.length + 1) (97 : UInt8)).toArray⟩ := by
  have h1 : rnsOf l = List.replicate l.length 122 := by
    rw [rns_ascii l (fun b hb => by have := hlo b hb; unfold Lo at this; omega), mapz l 0 hz]
    simp
  obtain ⟨j, hj⟩ : ∃ j, l.length = j + 1 := ⟨l.length - 1, by omega⟩
  rw [h1, hj, succ_zs j]
  exact text_of_nat _ _ (by intro b hb; rw [List.eq_of_mem_replicate hb]; decide) (by simp)
theorem word_k (l : List UInt8) (k : Nat) (hk : 0 < k) (hkl : k ≤ l.length) (hlo : ∀ b ∈ l, Lo b) (hz : l.drop k = List.replicate (l.length - k) 122) (x : UInt8) (hx : l[k - 1]? = some x) (hx2 : x.toNat ≠ 122) :
    textOf (succR (rnsOf l)) = ⟨(l.take (k - 1) ++ [x + 1] ++ List.replicate (l.length - k) (97 : UInt8)).toArray⟩ := by
  have hxm := hlo x (List.mem_of_getElem? hx)
  unfold Lo at hxm
  have e : l.take k = l.take (k - 1) ++ [x] := by
    obtain ⟨j, rfl⟩ : ∃ j, k = j + 1 := ⟨k - 1, by omega⟩
    rw [Nat.add_sub_cancel] at hx ⊢
    rw [List.take_add_one, hx]
    rfl
  have h1 : rnsOf l = (l.take (k - 1)).map (·.toNat) ++ x.toNat :: List.replicate (l.length - k) 122 := by
    rw [rns_ascii l (fun b hb => by have := hlo b hb; unfold Lo at this; omega), mapz l k hz, e]
    simp
  rw [h1, succ_mid _ _ (by omega)]
  have hx3 : (x + 1).toNat = x.toNat + 1 := by
    rw [UInt8.toNat_add]
    show (x.toNat + 1) % 256 = _
    omega
  refine text_of_nat _ _ (fun b hb => ?_) ?_
  · rcases List.mem_append.1 hb with hb | hb
    · rcases List.mem_append.1 hb with hb | hb
      · have := hlo b (List.mem_of_mem_take hb)
        unfold Lo at this
        omega
      · rw [List.mem_singleton.1 hb, hx3]; omega
    · rw [List.eq_of_mem_replicate hb]; decide
  · rw [List.map_append, List.map_append, List.map_replicate, List.map_singleton, hx3]
    simp
theorem az_eq : succS ⟨#[97, 122]⟩ = ⟨#[98, 97]⟩ := by
  unfold succS
  rw [word_k [97, 122] 1 (by decide) (by decide) (by unfold Lo; decide) rfl 97 rfl (by decide)]
  rfl
theorem az_any (w : World) : Calls Try.prog 4 #[.string ⟨#[97, 122]⟩] w fun e w' => e = .returned (.string ⟨#[98, 97]⟩) ∧ Below w.heap.size w w' := by
  have := implSucc_any ⟨#[97, 122]⟩ w (by decide)
  rwa [az_eq] at this
set_option maxRecDepth 100000 in
theorem long_any (s : ByteArray) (w : World) (b : Bool) (h : decide (4096 < s.size) = b) :
    Calls Try.prog 5 #[.string s] w fun e w' => e = .returned (.bool b) ∧ w = w' := by
  by_cases hl : 4096 < s.size
  · obtain rfl : b = true := by rw [← h]; simp [hl]
    have h1 : (4096 : Int) < (s.size : Int) := by omega
    clear h
    go_enter Try.func5, Try.ntmps5
    go_wp2
    go_ret
    exact ⟨rfl, rfl⟩
  · obtain rfl : b = false := by rw [← h]; simp [hl]
    have h1 : ¬ (4096 : Int) < (s.size : Int) := by omega
    clear h
    go_enter Try.func5, Try.ntmps5
    go_wp2
    go_ret
    exact ⟨rfl, rfl⟩

theorem conv1 (x : UInt8) (hx : x.toNat ≤ 254) (W : World) (B : Nat) (hc : W.cell? ⟨B, 0, none⟩ = some (.int .u8 ((x.toNat : Int) + 1))) :
    (convert 25 9 (.slice (some ⟨B, 0, none⟩) 1 1)).run Try.prog W = .ok (.string ⟨#[x + 1]⟩) W := by
  have e : ((x + 1 : UInt8).toNat : Int) = (x.toNat : Int) + 1 := by
    rw [UInt8.toNat_add]
    show (((x.toNat + 1) % 256 : Nat) : Int) = _
    omega
  refine run_convert_bytes_back W 25 9 5 ⟨B, 0, none⟩ 1 [x + 1] Try.underlying25 Try.underlying5 Try.underlying9 ?_
  intro j hj
  have : j = 0 := by simpa using hj
  subst this
  simp only [List.getElem_cons_zero, e]
  exact hc

theorem conv_b1 (x : UInt8) (hx : x.toNat ≤ 254) {W w5 : World} (hb : Below (W.alloc (.cells #[.int .u8 ((x.toNat : Int) + 1)] 5)).heap.size (W.alloc (.cells #[.int .u8 ((x.toNat : Int) + 1)] 5)) w5) :
    (convert 25 9 (.slice (some ⟨W.heap.size, 0, none⟩) 1 1)).run Try.prog w5 = .ok (.string ⟨#[x + 1]⟩) w5 := conv1 x hx _ _ (by rw [hb.cell (p := ⟨W.heap.size, 0, none⟩) (by simp)]; simp)
theorem conv_b2 (x : UInt8) (hx : x.toNat ≤ 254) {W w5 : World} (hb : Below (W.alloc (.cells #[.int .u8 ((x.toNat : Int) + 1)] 5)).drew.heap.size (W.alloc (.cells #[.int .u8 ((x.toNat : Int) + 1)] 5)).drew w5) :
    (convert 25 9 (.slice (some ⟨W.heap.size, 0, none⟩) 1 1)).run Try.prog w5 = .ok (.string ⟨#[x + 1]⟩) w5 := conv1 x hx _ _ (by rw [hb.cell (p := ⟨W.heap.size, 0, none⟩) (by simp)]; simp)

set_option maxHeartbeats 4000000 in
set_option maxRecDepth 100000 in
theorem fnSuccessorWords_walk (s : ByteArray) (w : World) (hs0 : s.size ≤ 140737488351232) :
    Calls Try.prog 3 #[.string s] w fun e w' => e = .returned (.bool true) ∧ Below w.heap.size w w' := by
  by_cases hb : 2147483647 < s.size
  · have hbz : (2147483647 : Int) < (s.size : Int) := by omega
    go_enter Try.func3, Try.ntmps3
    go_wp2
    go_ret
    exact ⟨rfl, Below.refl _ _⟩
  have hbz : ¬ (2147483647 : Int) < (s.size : Int) := by omega
  have HC := Lib.hid (fun w => implSucc_any s w (by omega))
  go_enter Try.func3, Try.ntmps3
  go_wp2_with (go_at_call 4; (with_reducible refine (az_any _).mono ?_); rintro e w1 ⟨rfl, hb1⟩; dsimp only)
  go_loopg [3] s.size (fun g iv wr => ∃ i : Nat, iv = .int .i64 i ∧ i ≤ s.size ∧ g = s.size - i ∧ Hid (∀ j b, j < i → s.data.toList[j]? = some b → Lo b) ∧ w1 = wr)
  case atStart => exact ⟨0, rfl, Nat.zero_le _, rfl, Lib.hid (fun j b h => absurd h (Nat.not_lt_zero _)), rfl⟩
  case round =>
    obtain ⟨i, rfl, hi, rfl, HLO, rfl⟩ := hrel
    by_cases hin : i < s.size
    · have hiz : (i : Int) < (s.size : Int) := by omega
      obtain ⟨x, hx⟩ : ∃ x, s[i] = x := ⟨_, rfl⟩
      have HX := Lib.hid (show s.data.toList[i]? = some x by rw [← hx]; exact Lib.data_getElem? s i hin)
      have hx256 : (x.toNat : Int) < 256 := by have := x.toNat_lt; omega
      have hrz : (x.toNat : Int) < 97 ∨ ((97 : Int) ≤ x.toNat ∧ (x.toNat : Int) ≤ 122) ∨ (122 : Int) < x.toNat := by omega
      rcases hrz with h | ⟨h, h'⟩ | h
      · go_wp2
        go_ret
        exact ⟨rfl, hb1⟩
      · go_wp2
        go_roundg (s.size - (i + 1))
        case measure => omega
        case rel =>
          refine ⟨i + 1, by go_num, by omega, rfl, Lib.hid (fun j b h1 h2 => ?_), rfl⟩
          by_cases hji : j < i
          · exact HLO.out j b hji h2
          · obtain rfl : j = i := by omega
            rw [HX.out] at h2
            obtain rfl := Option.some.inj h2
            unfold Lo
            omega
      · go_wp2
        go_ret
        exact ⟨rfl, hb1⟩
    · have hiz : ¬ (i : Int) < (s.size : Int) := by omega
      have HLL := Lib.hid (show ∀ b ∈ s.data.toList, Lo b from fun b hb => by
        obtain ⟨j, hj⟩ := List.getElem?_of_mem hb
        have := (List.getElem?_eq_some_iff.1 hj).1
        rw [← Lib.size_eq] at this
        exact HLO.out j b (by omega) hj)
      clear HLO
      by_cases hse : s.toList = []
      · go_wp2
        go_ret
        exact ⟨rfl, hb1⟩
      have hse2 : s.toList.isEmpty = false := by cases h : s.toList with | nil => exact absurd h hse | cons a l => rfl
      have hs1 : 0 < s.size := by
        rw [Lib.size_eq, ← Lib.toList_data]
        exact List.length_pos_iff.2 hse
      cases hlg : decide (4096 < s.size) with
      | true =>
        have HL := Lib.hid (fun w => long_any s w true hlg)
        clear hlg
        go_wp2_with (go_at_call 5; (with_reducible refine (HL.out _).mono ?_); rintro e w9 ⟨rfl, rfl⟩; dsimp only)
        go_ret
        exact ⟨rfl, hb1⟩
      | false =>
        have HL := Lib.hid (fun w => long_any s w false hlg)
        have hsl : s.size ≤ 4096 := by simpa using hlg
        clear hlg
        obtain ⟨T, hT⟩ : ∃ T, succS s = T := ⟨_, rfl⟩
        rw [hT] at HC
        have HT := Lib.hid hT
        clear hT
        go_wp2_with (first | (go_at_call 5; (with_reducible refine (HL.out _).mono ?_); rintro e w9 ⟨rfl, rfl⟩; dsimp only) | (go_at_call 4; (with_reducible refine (HC.out _).mono ?_); rintro e w2 ⟨rfl, hb2⟩; dsimp only))
        have hb12 := bthen hb1 hb2
        go_loopg [5] s.size (fun g kv wr => ∃ k : Nat, kv = .int .i64 k ∧ k ≤ s.size ∧ g = k ∧ Hid (s.data.toList.drop k = List.replicate (s.data.toList.length - k) 122) ∧ w2 = wr)
        case atStart => exact ⟨s.size, rfl, Nat.le_refl _, rfl, Lib.hid (by rw [Lib.size_eq]; simp), rfl⟩
        case round =>
          obtain ⟨k, rfl, hk, hg, HZ, rfl⟩ := hrel
          have hg := hg.symm
          subst hg
          by_cases hk0 : k = 0
          · subst hk0
            have hT2 : T = ⟨(List.replicate (s.size + 1) (97 : UInt8)).toArray⟩ := by
              rw [← HT.out, Lib.size_eq]
              exact word_z _ (by rw [← Lib.size_eq]; exact hs1) HLL.out HZ.out
            have hTz : (T.size : Int) = (s.size : Int) + 1 := by rw [hT2, Lib.size_eq]; simp
            have HA : Hid (∀ w, Calls Try.prog 6 #[.int .u8 97, .int .i64 ((s.size : Int) + 1)] w fun e w' => e = .returned (.string T) ∧ Below w.heap.size w w') := Lib.hid (fun w => by
              have := all_any 97 (s.size + 1) 97 ((s.size : Int) + 1) rfl (by omega) w (by omega)
              rwa [← hT2] at this)
            clear hT2
            go_wp2_with (go_at_call 6; (with_reducible refine (HA.out _).mono ?_); rintro e w5 ⟨rfl, hb5⟩; dsimp only)
            go_ret
            exact ⟨rfl, bthen hb12 hb5⟩
          · have hkz : (0 : Int) < (k : Int) := by omega
            have hkz1 : (0 : Int) ≤ (k : Int) - 1 := by omega
            have hkz2 : (k : Int) - 1 < (s.size : Int) := by omega
            have hk1 : k - 1 < s.size := by omega
            have hkz0 : ((k : Int) == 0) = false := by rw [beq_eq_false_iff_ne]; omega
            obtain ⟨x, hx⟩ : ∃ x, s[k - 1] = x := ⟨_, rfl⟩
            have HX := Lib.hid (show s.data.toList[k - 1]? = some x by rw [← hx]; exact Lib.data_getElem? s (k - 1) hk1)
            have hx256 : (x.toNat : Int) < 256 := by have := x.toNat_lt; omega
            by_cases hxz : x.toNat = 122
            · have hxb : ((x.toNat : Int) == 122) = true := by rw [beq_iff_eq]; omega
              have HXZ := Lib.hid hxz
              clear hxz
              go_wp2
              go_roundg (k - 1)
              case measure => omega
              case rel =>
                refine ⟨k - 1, by first | go_num | exact congrArg (Value.int .i64) (by omega), by omega, rfl, Lib.hid ?_, rfl⟩
                have hkl : k - 1 < s.data.toList.length := by rw [← Lib.size_eq]; exact hk1
                have hz := HZ.out
                obtain ⟨_, hx3⟩ := List.getElem?_eq_some_iff.1 HX.out
                rw [List.drop_eq_getElem_cons hkl, hx3, show k - 1 + 1 = k by omega, hz, show s.data.toList.length - (k - 1) = (s.data.toList.length - k) + 1 by rw [← Lib.size_eq]; omega, List.replicate_succ]
                congr 1
                apply UInt8.toNat_inj.1
                exact HXZ.out
            · have hxb : ((x.toNat : Int) == 122) = false := by rw [beq_eq_false_iff_ne]; omega
              have hT2 : T = ⟨(s.data.toList.take (k - 1) ++ [x + 1] ++ List.replicate (s.size - k) (97 : UInt8)).toArray⟩ := by
                rw [← HT.out, Lib.size_eq]
                exact word_k _ k (by omega) (by rw [← Lib.size_eq]; exact hk) HLL.out HZ.out x HX.out hxz
              have HT2 := Lib.hid hT2
              have HXZ := Lib.hid hxz
              clear hT2 hxz
              have HA := Lib.hid (fun w => all_any 97 (s.size - k) 97 ((s.size : Int) - (k : Int)) rfl (by omega) w (by omega))
              have hxl : (97 : Int) ≤ x.toNat ∧ (x.toNat : Int) ≤ 121 := by
                have := HLL.out x (List.mem_of_getElem? HX.out)
                have h2 := HXZ.out
                unfold Lo at this
                omega
              obtain ⟨hxl1, hxl2⟩ := hxl
              obtain ⟨Z, hZ⟩ : ∃ Z, (⟨(List.replicate (s.size - k) (97 : UInt8)).toArray⟩ : ByteArray) = Z := ⟨_, rfl⟩
              have hZs : Z.size ≤ 4096 := by rw [← hZ, Lib.size_eq]; simp; omega
              rw [hZ] at HA
              have HZZ := Lib.hid hZ
              clear hZ
              go_wp2_with fail
              obtain ⟨q, hq⟩ : ∃ q, k - 1 = q := ⟨_, rfl⟩
              have hw1 : IntKind.i64.wrap ((k : Int) - 1) = (q : Int) := by rw [IntWalk.i64_in _ (by omega)]; omega
              have hw3 : IntKind.i64.wrap ((s.size : Int) - (k : Int)) = (s.size : Int) - (k : Int) := IntWalk.i64_in _ (by omega)
              have hw2 : IntKind.u8.wrap ((x.toNat : Int) + 1) = (x.toNat : Int) + 1 := IntWalk.u8_in _ (by omega)
              have hq1 : (q : Int) ≤ (s.size : Int) := by omega
              have hq2 : (q : Int) < (s.size : Int) := by omega
              have hq3 : (0 : Int) ≤ (q : Int) := by omega
              have hq4 : q < s.size := by omega
              have hx' : s[q] = x := by simp only [← hq]; exact hx
              have HQ := Lib.hid hq
              clear hx hkz1 hkz2 hq
              have hx254 : x.toNat ≤ 254 := by omega
              have hcA : ∀ W : World, (convert 25 9 (.slice (some ⟨W.heap.size, 0, none⟩) 1 1)).run Try.prog (W.alloc (.cells #[.int .u8 ((x.toNat : Int) + 1)] 5)) = .ok (.string ⟨#[x + 1]⟩) (W.alloc (.cells #[.int .u8 ((x.toNat : Int) + 1)] 5)) := fun W => conv1 x hx254 _ _ (by simp)
              have hcB : ∀ W : World, (convert 25 9 (.slice (some ⟨W.heap.size, 0, none⟩) 1 1)).run Try.prog (W.alloc (.cells #[.int .u8 ((x.toNat : Int) + 1)] 5)).drew = .ok (.string ⟨#[x + 1]⟩) (W.alloc (.cells #[.int .u8 ((x.toNat : Int) + 1)] 5)).drew := fun W => conv1 x hx254 _ _ (by simp)
              have hT3 : T = (s.extract 0 q ++ (⟨#[x + 1]⟩ : ByteArray)) ++ Z := by
                rw [HT2.out, ← HZZ.out]
                apply ByteArray.ext
                apply Array.toList_inj.1
                rw [HQ.out]
                simp
              subst hT3
              have hxs : (⟨#[x + 1]⟩ : ByteArray).size = 1 := rfl
              have hcc1 : (s.extract 0 q ++ (⟨#[x + 1]⟩ : ByteArray)).size + Z.size ≤ 9223372036854775807 := by rw [ByteArray.size_append, hxs]; simp; omega
              have hcc2 : ((s.extract 0 q ++ (⟨#[x + 1]⟩ : ByteArray)).size : Int) + (Z.size : Int) ≤ 9223372036854775807 := by omega
              clear hxs
              go_region_with ((go_at_call 6; (with_reducible refine (HA.out _).mono ?_); rintro e w5 ⟨rfl, hb5⟩; dsimp only; first | have hcv5 := conv_b1 x hx254 hb5 | have hcv5 := conv_b2 x hx254 hb5 | skip))
              all_goals
                go_wp2_with fail
                go_ret
                refine ⟨?_, ?_⟩
                · trivial
                · first
                  | exact bthen hb12 (bthen (((Below.refl _ w2).alloc (Nat.le_refl _) _).drew) hb5)
                  | exact (bthen hb12 (bthen ((Below.refl _ w2).drew) hb5)).alloc (bthen hb12 (bthen ((Below.refl _ w2).drew) hb5)).size _
end Go.Proofs.Ytdomnccokhhieaa
