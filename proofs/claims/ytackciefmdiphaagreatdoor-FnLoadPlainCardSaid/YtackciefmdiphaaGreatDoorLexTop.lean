/- lex: a lexer made and run. -/
import Derived.Test.YtackciefmdiphaaGreatDoorLexAll
import Derived.OwnWalk
set_option linter.unusedVariables false
namespace Go.Proofs.YtackciefmdiphaaGreatDoor
open Go.RowKit Plain

def LexPost (s : ByteArray) (w : World) (e : Ending) (w' : World) : Prop := ∃ lb q st rs, e = .returned (.pointer (some ⟨lb, 0, none⟩)) ∧ LY w.heap.size lb s q st rs (lexL s) w' ∧ Below w.heap.size w w'
set_option maxHeartbeats 4000000 in
set_option maxRecDepth 100000 in
theorem lex_any (s : ByteArray) (w : World) (hs : s.size ≤ 100000) (hT : Tabs w) :
    Calls Tryz.prog 60 #[.string s] w (LexPost s w) := by
  unfold LexPost
  obtain ⟨i0, hi, hz0, hz1, hz2⟩ := info_parts infoRune
  have HT := Lib.hid hT
  go_enter Tryz.func60, Tryz.ntmps60
  go_wp2_with (at_make; refine wpList_make_own _ rfl _ _ 113 rfl w.heap.size 21 i0 (.int .i32 0) 1 Tryz.underlying113 hi hz0 hz1 .i64 .i64 32 32 rfl rfl rfl (by omega) (by unfold maxLen; omega) (Nat.le_refl _) ?_)
  intro w1 hown hgr
  have hb1 : Below w.heap.size w w1 := (Below.refl _ w).grown hgr (Nat.le_refl _) (fun g hg => by cases hg)
  obtain ⟨W2, hW2⟩ : ∃ W2, w1.alloc (.cells #[.string s, .nilFunc, .int .i64 0, .int .i64 0, .int .i64 0, .int .i64 0, .slice (some ⟨w.heap.size, 0, none⟩) 0 32, .slice none 0 0] 116) = W2 := ⟨_, rfl⟩
  obtain ⟨lb, hlb⟩ : ∃ lb, w1.heap.size = lb := ⟨_, rfl⟩
  have hx : W2.heap[lb]? = some (lxC s .nilFunc 0 0 0 0 (.slice (some ⟨w.heap.size, 0, none⟩) 0 32) (.slice none 0 0)) := by rw [← hW2, ← hlb]; exact heap_alloc_new w1 _
  have hb2 : Below w.heap.size w W2 := by rw [← hW2]; exact hb1.alloc hb1.size _
  have HLY : Hid (LY w.heap.size lb s 0 0 [] [] W2) := Lib.hid ⟨0, ⟨.nilFunc, 0, _, _, hx, by rw [← hW2]; exact row_keep hown (fun g hg => Below.heap_alloc w1 _ g (row_lt hown hg).2), ⟨rfl, .inl ⟨rfl, rfl⟩⟩, ⟨_, _, rfl⟩⟩, by rw [← hlb]; exact hb1.size⟩
  have HB2 := Lib.hid hb2
  have HRUN := Lib.hid (run_any w.heap.size lb s W2 HLY.out hs (tabsL_of HT.out hb2))
  clear hown hgr hb1 hx hb2 hi hz0 hz1 hz2
  go_wp2_with (go_at_call 88; (try rw [hW2, hlb]); with_reducible refine HRUN.out.mono ?_)
  rintro e w3 ⟨rfl, ⟨q, st, rs, hy⟩, hb⟩
  dsimp only
  have HY := Lib.hid hy
  have HB3 := Lib.hid (HB2.out.trans hb)
  clear hy hb
  go_wp2
  go_ret
  exact ⟨lb, q, st, rs, rfl, HY.out, HB3.out⟩
end Go.Proofs.YtackciefmdiphaaGreatDoor
