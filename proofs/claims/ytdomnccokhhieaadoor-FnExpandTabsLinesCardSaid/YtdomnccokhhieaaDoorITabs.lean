/- The walk of impl.ExpandTabs: xstrings.ExpandTabs, which does not panic at a size above zero. -/
import Derived.Test.YtdomnccokhhieaaDoorTabs
import Derived.Defers
import Derived.Recover
import Derived.Laws.Pointers
namespace Go.Proofs.YtdomnccokhhieaaDoor
open Go.RowKit Plain

set_option maxRecDepth 100000 in
theorem catchT_idle (p q : Addr) (w : World) :
    CallsD Tryd.prog 40 #[.pointer (some p), .pointer (some q)] .returning w fun e u' w' => e = .returned (.tuple #[]) ∧ u' = .returning ∧ w' = w := by
  refine callsD_of_wpS Tryd.func40 rfl fun c₀ cs hu => ?_
  apply wpS_seq
  apply wpS_region
  simp [wpOpsS, go_sem, recoverD, hu, Tryd.ntmps40, Exit.thenS]
  refine wpS_cond (t := false) (by simp [Act.eval, Array.replicate]) ?_
  simp only [Bool.false_eq_true, if_false]
  refine wpS_of_wp (wp_skip ?_)
  cases c₀
  simp_all [bodyPostS, results, Tryd.results40]

/-- two new one-cell blocks in a later world -/
theorem two_cellsT {w w1 : World} {u v : Value} {T U : TypeId} (hb : Below ((w.alloc (.cells #[u] T)).alloc (.cells #[v] U)).heap.size ((w.alloc (.cells #[u] T)).alloc (.cells #[v] U)) w1) :
    w1.cell? ⟨w.heap.size, 0, none⟩ = some u ∧ w1.cell? ⟨w.heap.size + 1, 0, none⟩ = some v ∧ w1.frozen? ⟨w.heap.size, 0, none⟩ = false ∧ w1.frozen? ⟨w.heap.size + 1, 0, none⟩ = false ∧ Below w.heap.size w w1 := by
  have hz : ((w.alloc (.cells #[u] T)).alloc (.cells #[v] U)).heap.size = w.heap.size + 2 := by simp
  have h0 : ((w.alloc (.cells #[u] T)).alloc (.cells #[v] U)).heap[w.heap.size]? = some (.cells #[u] T (0, 0)) := (Lib.alloc_old _ _ _ (by simp)).trans (heap_alloc_new w _)
  have h1 : ((w.alloc (.cells #[u] T)).alloc (.cells #[v] U)).heap[w.heap.size + 1]? = some (.cells #[v] U (0, 0)) := by
    have := heap_alloc_new (w.alloc (.cells #[u] T)) (.cells #[v] U)
    simpa using this
  have k0 : w1.heap[w.heap.size]? = some (.cells #[u] T (0, 0)) := (hb.block _ (by omega)).trans h0
  have k1 : w1.heap[w.heap.size + 1]? = some (.cells #[v] U (0, 0)) := (hb.block _ (by omega)).trans h1
  refine ⟨by rw [Lib.cell_of_heap k0]; rfl, by rw [Lib.cell_of_heap k1]; rfl, Lib.frozen_of_heap k0 0, Lib.frozen_of_heap k1 0, ?_⟩
  exact (((Below.refl _ w).alloc (Nat.le_refl _) _).alloc (by simp) _).trans (hb.mono (by omega))
theorem addr_neT (k : Nat) : (⟨k, 0, none⟩ : Addr) ≠ ⟨k + 1, 0, none⟩ := by intro h; injection h with h; omega

set_option maxHeartbeats 1000000 in
set_option maxRecDepth 100000 in
theorem implTabs_good (s : ByteArray) (size : Nat) (r : ByteArray) (w : World) (hs : s.size ≤ 2147483647) (h1 : 1 ≤ size) (h2 : size ≤ 128) (hT : Tabs w) (hr : ⟨(expB size (segs s.data.toList) 0).toArray⟩ = r) :
    Calls Tryd.prog 21 #[.string s, .int .i64 (size : Int)] w fun e w' => e = .returned (.tuple #[.string r, .bool true]) ∧ Below w.heap.size w w' := by
  have cS : ∀ w, Tabs w → Calls Tryd.prog 41 #[.string s, .int .i64 (size : Int)] w fun e w' => e = .returned (.string r) ∧ Below w.heap.size w w' := fun w hT => hr ▸ expand_any s size w hs h1 h2 hT
  have HS := Lib.hid cS
  clear cS hr
  have hmf : ∀ (fn : Fn) (first cap : Array Value) (w : World), (Instr.makeFunc fn first cap).run Tryd.prog w = .ok (.func fn first cap) w := fun _ _ _ _ => rfl
  have hT2 : Tabs ((w.alloc (.cells #[.string ⟨#[]⟩] 9)).alloc (.cells #[.bool false] 4)) := hT.below (((Below.refl _ w).alloc (Nat.le_refl _) _).alloc (by simp) _)
  go_enter_defers Tryd.func21, Tryd.ntmps21
  go_wp2_with (go_at_call 41; refine (HS.out _ hT2).mono ?_; rintro e w1 ⟨rfl, hb⟩; obtain ⟨c0, c1, f0, f1, hbw⟩ := two_cellsT hb)
  refine leaves_cons (f := 40) (args := #[.pointer (some ⟨w.heap.size, 0, none⟩), .pointer (some ⟨w.heap.size + 1, 0, none⟩)]) (by simp) (by simp [go_sem]) ?_
  refine (catchT_idle ⟨w.heap.size, 0, none⟩ ⟨w.heap.size + 1, 0, none⟩ _).mono ?_
  rintro e u' w'' ⟨rfl, rfl, rfl⟩
  have d0 : ((w1.setCell ⟨w.heap.size, 0, none⟩ (.string r)).setCell ⟨w.heap.size + 1, 0, none⟩ (.bool true)).cell? ⟨w.heap.size, 0, none⟩ = some (.string r) := by
    rw [World.cell?_setCell_other _ _ _ _ (addr_neT _).symm]; exact World.cell?_setCell_same _ _ _ c0
  have d1 : ((w1.setCell ⟨w.heap.size, 0, none⟩ (.string r)).setCell ⟨w.heap.size + 1, 0, none⟩ (.bool true)).cell? ⟨w.heap.size + 1, 0, none⟩ = some (.bool true) := by
    have h : (w1.setCell ⟨w.heap.size, 0, none⟩ (.string r)).cell? ⟨w.heap.size + 1, 0, none⟩ = some (.bool false) := by rw [World.cell?_setCell_other _ _ _ _ (addr_neT _)]; exact c1
    exact World.cell?_setCell_same _ _ _ h
  have hbw2 : Below w.heap.size w ((w1.setCell ⟨w.heap.size, 0, none⟩ (.string r)).setCell ⟨w.heap.size + 1, 0, none⟩ (.bool true)) := (hbw.setCell (p := ⟨w.heap.size, 0, none⟩) (Nat.le_refl _) _).setCell (p := ⟨w.heap.size + 1, 0, none⟩) (Nat.le_succ _) _
  generalize ((w1.setCell ⟨w.heap.size, 0, none⟩ (.string r)).setCell ⟨w.heap.size + 1, 0, none⟩ (.bool true)) = wz at d0 d1 hbw2 ⊢
  simp [Leaves, settle, results, Tryd.results21, go_sem, d0, d1]
  exact hbw2
end Go.Proofs.YtdomnccokhhieaaDoor
