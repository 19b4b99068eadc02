/- The walk of spec.Pattern. -/
import Derived.Test.YtdgaehkfdaacjaaDoorTextR
import Derived.Test.YtdgaehkfdaacjaaDoorSettled
import Derived.Test.YtdgaehkfdaacjaaDoorAllocT
import Derived.Deep.LoopGhost
import Derived.BigQuiet
import Derived.Laws.ResultCell
set_option linter.unusedVariables false
namespace Go.Proofs.YtdgaehkfdaacjaaDoor
open Go.RowKit Plain Go.Maps

theorem two_cells {w : World} {k : Nat} {u v : Value} {t : TypeId} (h : w.heap[k]? = some (.cells #[u, v] t (0, 0))) : w.cell? ⟨k, 0, none⟩ = some u ∧ w.cell? ⟨k, 1, none⟩ = some v ∧ w.frozen? ⟨k, 0, none⟩ = false ∧ w.frozen? ⟨k, 1, none⟩ = false := by
  simp [World.cell?, World.frozen?, h]
theorem two_sets {w w1 : World} (hb1 : Below ((w.alloc (.cells #[.slice none 0 0, .bool false] 40)).alloc (.cells #[.slice none 0 0, .bool false] 40)).heap.size ((w.alloc (.cells #[.slice none 0 0, .bool false] 40)).alloc (.cells #[.slice none 0 0, .bool false] 40)) w1) :
    w1.heap[w.heap.size]? = some (.cells #[.slice none 0 0, .bool false] 40 (0, 0)) ∧ w1.heap[w.heap.size + 1]? = some (.cells #[.slice none 0 0, .bool false] 40 (0, 0)) ∧ Below w.heap.size w w1 := by
  refine ⟨?_, ?_, bthen (((Below.refl _ w).alloc (Nat.le_refl _) _).alloc (by simp) _) hb1⟩
  · rw [hb1.block _ (by simp; omega), Below.heap_alloc _ _ _ (by simp)]
    exact heap_alloc_new w _
  · rw [hb1.block _ (by simp)]
    have := heap_alloc_new (w.alloc (.cells #[.slice none 0 0, .bool false] 40)) (.cells #[.slice none 0 0, .bool false] 40)
    simpa using this
theorem set2 {w : World} {k : Nat} {x y u v : Value} {t : TypeId} (h : w.heap[k]? = some (.cells #[x, y] t (0, 0))) : ((w.setCell ⟨k, 0, none⟩ u).setCell ⟨k, 1, none⟩ v).heap[k]? = some (.cells #[u, v] t (0, 0)) := by
  simp [World.setCell, Array.getElem?_modify, h]
theorem pat_res {tmps : Array Value} {W : World} {k : Nat} {u v : Value} {n : Int} (h4 : tmps.getD 4 undef = .pointer (some ⟨k, 0, none⟩)) (h5 : tmps.getD 5 undef = .int .i64 n) (h : W.heap[k]? = some (.cells #[u, v] 40 (0, 0))) :
    (results Tryd.f25 tmps).run Tryd.prog W = .ok (.tuple #[.agg #[u, v], .int .i64 n]) W := by
  obtain ⟨c0, c1, _, _⟩ := two_cells h
  rw [results_cell_tmp rfl, h4, h5]
  go_simp
def OpenA (e : Ending) : Prop := ∃ A n c b, e = .returned (.tuple #[.agg #[.slice A n c, .bool b], .int .i64 2])
theorem set_lit (w : World) (g : Nat) (hg : g = w.heap.size) (s : ByteArray) (hs : s.size ≤ 2000) (hT : Tabs w) (v : Bool) (hv : Lib.validD s.data.toList = v) :
    Calls Tryd.prog 30 #[.slice (some ⟨g, 0, none⟩) 1 1] (w.alloc (.cells #[.string s] 9)) fun e w' => e = .returned (.bool v) ∧ Below w.heap.size w w' := by
  subst hg
  have hb0 : Below w.heap.size w (w.alloc (.cells #[.string s] 9)) := (Below.refl _ w).alloc (Nat.le_refl _) _
  refine (settled_any w.heap.size 1 1 [s] rfl _ (by simp) (rowS_new w [s] _) (by omega) (fun x hx => by rw [List.mem_singleton.1 hx]; omega) (hT.below hb0) v (by simpa using hv)).mono ?_
  rintro e w' ⟨rfl, hb⟩
  exact ⟨rfl, bthen hb0 hb⟩
set_option maxHeartbeats 8000000 in
set_option maxRecDepth 100000 in
theorem pattern_bad (s : ByteArray) (tob : Bool) (w : World) (hs : s.size ≤ 2000) (hT : Tabs w) (hv : Lib.validD s.data.toList = false) :
    Calls Tryd.prog 25 #[.string s, .bool tob] w fun e w' => OpenA e ∧ Below w.heap.size w w' := by
  have HS := Lib.hid (fun w g hg hT => set_lit w g hg s hs hT false hv)
  clear hv
  have hB0 : Below w.heap.size w ((w.alloc (.cells #[.slice none 0 0, .bool false] 40)).alloc (.cells #[.slice none 0 0, .bool false] 40)) := ((Below.refl _ w).alloc (Nat.le_refl _) _).alloc (by simp) _
  have hT0 := hT.below hB0
  go_enter Tryd.func25, Tryd.ntmps25
  go_wp2_with (go_at_call 30; (with_reducible refine (HS.out _ (w.heap.size + 1 + 1) (by simp) hT0).mono ?_); rintro e w1 ⟨rfl, hb1⟩; dsimp only; obtain ⟨x1, x2, hB1⟩ := two_sets hb1; obtain ⟨c1, c2, c3, c4⟩ := two_cells x1; obtain ⟨d1, d2, d3, d4⟩ := two_cells x2)
  go_wp2
  (try simp only [Exit.inBlock, Exit.then])
  refine bodyPost_ret (pat_res (n := 2) ?r4 ?r5 (set2 x1)) rfl ?_
  case r4 => rfl
  case r5 => rfl
  exact ⟨⟨_, _, _, _, rfl⟩, (hB1.setCell (Nat.le_refl _) _).setCell (Nat.le_refl _) _⟩
end Go.Proofs.YtdgaehkfdaacjaaDoor
