/- The walks of xstrings.Len and impl.Len: how many pieces a text has. -/
import Derived.Test.YtobcoplfniojkaaDoorValid
import Derived.Test.YtobcoplfniojkaaDoorRunes
namespace Go.Proofs.YtobcoplfniojkaaDoor
open Go.RowKit Plain

set_option maxRecDepth 100000 in
theorem xlen_any (s : ByteArray) (w : World) (hs : s.size ≤ 140737488355328) :
    Calls Tryd.prog 39 #[.string s] w fun e w' => e = .returned (.int .i64 (segs s.data.toList).length) ∧ Below w.heap.size w w' := by
  rw [← runeCount_segs]
  go_enter Tryd.func39, Tryd.ntmps39
  go_wp2_with (go_at_call 56; refine (Tryd.utf8_RuneCountInString s _ (by omega)).mono ?_; rintro e w1 ⟨rfl, pos, rfl⟩)
  go_ret
  exact ⟨rfl, below_iter _ _ _⟩
set_option maxRecDepth 100000 in
theorem len_any (s : ByteArray) (w : World) (hs : s.size ≤ 140737488355328) :
    Calls Tryd.prog 13 #[.string s] w fun e w' => e = .returned (.int .i64 (segs s.data.toList).length) ∧ Below w.heap.size w w' := by
  go_enter Tryd.func13, Tryd.ntmps13
  go_wp2_with (go_at_call 39; refine (xlen_any s _ hs).mono ?_; rintro e w1 ⟨rfl, hb⟩)
  go_ret
  exact ⟨rfl, hb⟩
theorem segs_le (s : ByteArray) : (segs s.data.toList).length ≤ s.size := by rw [Lib.size_eq]; exact segs_length_le _
end Go.Proofs.YtobcoplfniojkaaDoor
