/- The walks of xstrings.RuneWidth and xstrings.Width: the sum of the widths of a text's runes. -/
import Derived.Test.YtobcoplfniojkaaDoorDec
namespace Go.Proofs.YtobcoplfniojkaaDoor
open Go.RowKit Plain

/-- xstrings.RuneWidth -/
def rwid (c : Int) : Int := if c = 65533 ∨ c < 32 then 0 else if c < 8192 then 1 else if c < 65377 then 2 else if c < 65440 then 1 else 2
theorem rwid_le (c : Int) : 0 ≤ rwid c ∧ rwid c ≤ 2 := by unfold rwid; (repeat' split) <;> omega

set_option maxHeartbeats 1000000 in
set_option maxRecDepth 100000 in
theorem runeWidth_any (c : Int) (w : World) :
    Calls Tryd.prog 58 #[.int .i32 c] w fun e w' => e = .returned (.int .i64 (rwid c)) ∧ w = w' := by
  by_cases h0 : c = 65533
  · have H := Lib.hid (show (0 : Int) = rwid c by unfold rwid; rw [if_pos (.inl h0)])
    have e0 : (c == 65533) = true := by simpa using h0
    clear h0
    go_enter Tryd.func58, Tryd.ntmps58
    go_wp2
    go_ret
    exact ⟨ret_int H.out, rfl⟩
  have e0 : (c == 65533) = false := by simpa using h0
  by_cases h1 : c < 32
  · have H := Lib.hid (show (0 : Int) = rwid c by unfold rwid; rw [if_pos (.inr h1)])
    clear h0
    go_enter Tryd.func58, Tryd.ntmps58
    go_wp2
    go_ret
    exact ⟨ret_int H.out, rfl⟩
  by_cases h2 : c < 8192
  · have H := Lib.hid (show (1 : Int) = rwid c by unfold rwid; rw [if_neg (by omega), if_pos h2])
    clear h0
    go_enter Tryd.func58, Tryd.ntmps58
    go_wp2
    go_ret
    exact ⟨ret_int H.out, rfl⟩
  by_cases h3 : c < 65377
  · have H := Lib.hid (show (2 : Int) = rwid c by unfold rwid; rw [if_neg (by omega), if_neg h2, if_pos h3])
    clear h0
    go_enter Tryd.func58, Tryd.ntmps58
    go_wp2
    go_ret
    exact ⟨ret_int H.out, rfl⟩
  by_cases h4 : c < 65440
  · have H := Lib.hid (show (1 : Int) = rwid c by unfold rwid; rw [if_neg (by omega), if_neg h2, if_neg h3, if_pos h4])
    clear h0
    go_enter Tryd.func58, Tryd.ntmps58
    go_wp2
    go_ret
    exact ⟨ret_int H.out, rfl⟩
  · have H := Lib.hid (show (2 : Int) = rwid c by unfold rwid; rw [if_neg (by omega), if_neg h2, if_neg h3, if_neg h4])
    clear h0
    go_enter Tryd.func58, Tryd.ntmps58
    go_wp2
    go_ret
    exact ⟨ret_int H.out, rfl⟩

/-- the width of a list of pieces -/
def wids : List (List UInt8) → Int
  | [] => 0
  | c :: l => rwid (runeOf c) + wids l
theorem wids_append : ∀ (a b : List (List UInt8)), wids (a ++ b) = wids a + wids b
  | [], b => by simp [wids]
  | c :: a, b => by simp only [List.cons_append, wids, wids_append a b]; omega
theorem wids_le : ∀ (a : List (List UInt8)), 0 ≤ wids a ∧ wids a ≤ 2 * a.length
  | [] => by simp [wids]
  | c :: a => by
    have h := rwid_le (runeOf c)
    have := wids_le a
    simp only [wids, List.length_cons]
    omega

set_option maxHeartbeats 1000000 in
set_option maxRecDepth 100000 in
theorem width_any (s : ByteArray) (w : World) (hs : s.size ≤ 2147483647) (hT : Tabs w) :
    Calls Tryd.prog 41 #[.string s] w fun e w' => e = .returned (.int .i64 (wids (segs s.data.toList))) ∧ Below w.heap.size w w' := by
  obtain ⟨ALL, hALL⟩ : ∃ ALL, wids (segs s.data.toList) = ALL := ⟨_, rfl⟩
  rw [hALL]
  have HA := Lib.hid hALL
  clear hALL
  go_enter Tryd.func41, Tryd.ntmps41
  go_wp2
  go_loopw [0, 5] (fun str n wr => ∃ (t : ByteArray) (k : Int), str = .string t ∧ n = .int .i64 k ∧ t.size ≤ 2147483647 ∧ 0 ≤ k ∧ k ≤ 2 * ((s.size : Int) - t.size) ∧ k + wids (segs t.data.toList) = ALL ∧ Below w.heap.size w wr) (fun str _ _ => match str with | .string t => t.size | _ => 0)
  case atStart => exact ⟨s, 0, rfl, rfl, hs, by omega, by omega, by simpa using HA.out, Below.refl _ _⟩
  case round =>
    obtain ⟨t, k, rfl, rfl, ht, hk0, hk, hacc, hbw⟩ := hrel
    have HC := Lib.hid hacc
    clear hacc
    have hTr := hT.below hbw
    by_cases hp : 0 < t.size
    · obtain ⟨R, K, hh⟩ := head_of t hp
      have HH := Lib.hid hh
      have hK1 := hh.pos
      have hK2 := hh.le
      have hR := hh.rune
      have HS := Lib.hid (segs_rest t R K hh)
      clear hh
      have hpz : (0 : Int) < (t.size : Int) := by omega
      have hrs := (rest_of t K).2
      have hw2 := rwid_le R
      obtain ⟨D, hD⟩ : ∃ D, rwid R = D := ⟨_, rfl⟩
      have cW : ∀ w, Calls Tryd.prog 58 #[.int .i32 R] w fun e w' => e = .returned (.int .i64 D) ∧ w = w' := fun w => by rw [← hD]; exact runeWidth_any R w
      rw [hD] at hw2
      have HW := Lib.hid cW
      have HD := Lib.hid hD
      have HR := Lib.hid hrs
      clear cW hD hrs
      go_wp2_with (first | (go_at_call 57; refine (decode_any t _ hTr R K HH).mono ?_; rintro e w1 ⟨rfl, hb1⟩) | (go_at_call 58; refine (HW.out _).mono ?_; rintro e w2 ⟨rfl, rfl⟩))
      go_roundw
      case rel =>
        have hrs := HR.out
        refine ⟨_, k + D, rfl, by go_num, by omega, by omega, by omega, ?_, ?_⟩
        · have h1 := HC.out
          rw [HS.out, wids, ← HH.out.run, HD.out] at h1
          omega
        · exact hbw.trans (hb1.mono (by have := hbw.size; omega))
      case measure =>
        have hrs := HR.out
        simp only [hrs]
        omega
    · have hpz : ¬ (0 : Int) < (t.size : Int) := by omega
      go_wp2
      go_ret
      have h1 := HC.out
      rw [segs_empty t hp, wids] at h1
      exact ⟨ret_int (by omega), hbw⟩
end Go.Proofs.YtobcoplfniojkaaDoor
