/- The walk of xstrings.isAlphabet. -/
import Derived.Test.YtdomnccokhhieaaDoorPTab
import Derived.Shelf.Unicode.PredsPay
namespace Go.Proofs.YtdomnccokhhieaaDoor
open Go.RowKit Plain

/-- the table of letters -/
def LTab (w : World) : Prop := Lib.RVar 5 Lib.letterT w
theorem LTab.below {w w' : World} (h : LTab w) (hb : Below w.heap.size w w') : LTab w' := RVar_below h hb

def alpha (r : Nat) : Bool := Lib.isLetterU (r : Int) && !(decide (19968 ≤ r) && decide (r ≤ 40908)) && !(decide (13312 ≤ r) && decide (r ≤ 19845)) && !(decide (131072 ≤ r) && decide (r ≤ 178205))

set_option maxHeartbeats 2000000 in
set_option maxRecDepth 100000 in
theorem alpha_any (r : Nat) (w : World) (hr : r ≤ 1114111) (hP : PTab w) (hV : LTab w) :
    Calls Tryd.prog 53 #[.int .i32 (r : Int)] w fun e w' => e = .returned (.bool (alpha r)) ∧ Below w.heap.size w w' := by
  have cL := fun (w : World) (hP : PTab w) (hV : LTab w) => Tryd.unicode_IsLetter_all (r : Int) w (by omega) (by omega) hP hV
  unfold alpha
  cases hl : Lib.isLetterU (r : Int) with
  | false =>
    rw [hl] at cL
    have HL := Lib.hid cL
    clear cL hl
    go_enter Tryd.func53, Tryd.ntmps53
    go_wp2_with (go_at_call 65; (with_reducible refine (HL.out _ hP hV).mono ?_); rintro e w1 ⟨rfl, hb1⟩; dsimp only)
    go_wp2
    go_ret
    exact ⟨rfl, hb1⟩
  | true =>
    rw [hl] at cL
    have HL := Lib.hid cL
    clear cL hl
    have key : ∀ b : Bool, (true && !(decide (19968 ≤ r) && decide (r ≤ 40908)) && !(decide (13312 ≤ r) && decide (r ≤ 19845)) && !(decide (131072 ≤ r) && decide (r ≤ 178205))) = b → Hid ((true && !(decide (19968 ≤ r) && decide (r ≤ 40908)) && !(decide (13312 ≤ r) && decide (r ≤ 19845)) && !(decide (131072 ≤ r) && decide (r ≤ 178205))) = b) := fun b h => Lib.hid h
    obtain ⟨b, hb⟩ : ∃ b, (true && !(decide (19968 ≤ r) && decide (r ≤ 40908)) && !(decide (13312 ≤ r) && decide (r ≤ 19845)) && !(decide (131072 ≤ r) && decide (r ≤ 178205))) = b := ⟨_, rfl⟩
    rw [hb]
    have HB := key b hb
    clear hb key
    by_cases h1 : (r : Int) < 13312
    · go_enter Tryd.func53, Tryd.ntmps53
      go_wp2_with (go_at_call 65; (with_reducible refine (HL.out _ hP hV).mono ?_); rintro e w1 ⟨rfl, hb1⟩; dsimp only)
      go_wp2
      go_ret
      refine ⟨ret_bool ?_, hb1⟩
      rw [← HB.out]
      simp; omega
    by_cases h2 : (19968 : Int) ≤ r
    · by_cases h3 : (r : Int) ≤ 40908
      · go_enter Tryd.func53, Tryd.ntmps53
        go_wp2_with (go_at_call 65; (with_reducible refine (HL.out _ hP hV).mono ?_); rintro e w1 ⟨rfl, hb1⟩; dsimp only)
        go_wp2
        go_ret
        refine ⟨ret_bool ?_, hb1⟩
        rw [← HB.out]
        simp; omega
      · by_cases h4 : (131072 : Int) ≤ r
        · by_cases h5 : (r : Int) ≤ 178205
          all_goals
            have h6 : ¬ (r : Int) ≤ 19845 := by omega
            have h7 : (13312 : Int) ≤ r := by omega
            go_enter Tryd.func53, Tryd.ntmps53
            go_wp2_with (go_at_call 65; (with_reducible refine (HL.out _ hP hV).mono ?_); rintro e w1 ⟨rfl, hb1⟩; dsimp only)
            go_wp2
            go_ret
            refine ⟨ret_bool ?_, hb1⟩
            rw [← HB.out]
            simp; omega
        · have h6 : ¬ (r : Int) ≤ 19845 := by omega
          have h7 : (13312 : Int) ≤ r := by omega
          go_enter Tryd.func53, Tryd.ntmps53
          go_wp2_with (go_at_call 65; (with_reducible refine (HL.out _ hP hV).mono ?_); rintro e w1 ⟨rfl, hb1⟩; dsimp only)
          go_wp2
          go_ret
          refine ⟨ret_bool ?_, hb1⟩
          rw [← HB.out]
          simp; omega
    · have h7 : (13312 : Int) ≤ r := by omega
      have h8 : ¬ (131072 : Int) ≤ r := by omega
      by_cases h3 : (r : Int) ≤ 19845
      all_goals
        go_enter Tryd.func53, Tryd.ntmps53
        go_wp2_with (go_at_call 65; (with_reducible refine (HL.out _ hP hV).mono ?_); rintro e w1 ⟨rfl, hb1⟩; dsimp only)
        go_wp2
        go_ret
        refine ⟨ret_bool ?_, hb1⟩
        rw [← HB.out]
        simp; omega
end Go.Proofs.YtdomnccokhhieaaDoor
