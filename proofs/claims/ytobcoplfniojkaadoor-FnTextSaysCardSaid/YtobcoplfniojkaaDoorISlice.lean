/- The walk of impl.Slice: xstrings.Slice with its panic caught. -/
import Derived.Test.YtobcoplfniojkaaDoorSlice
import Derived.Defers
import Derived.Recover
import Derived.Laws.Pointers
namespace Go.Proofs.YtobcoplfniojkaaDoor
open Go.RowKit Plain

set_option maxRecDepth 100000 in
theorem catchS_panicking (p q : Addr) (x : ByteArray) (y : Bool) (u : TypeId) (pv : Value) (older : List PanicEntry) (w : World) (hpq : p ≠ q) (hc : w.cell? p = some (.string x)) (hz : w.frozen? p = false) (hd : w.cell? q = some (.bool y)) (hy : w.frozen? q = false) :
    CallsD Tryd.prog 42 #[.pointer (some p), .pointer (some q)] (.panicking ({ v := .iface u pv, recovered := false } :: older)) w fun e u' w' =>
      e = .returned (.tuple #[]) ∧ u' = .panicking ({ v := .iface u pv, recovered := true } :: older) ∧ w' = (w.setCell p (.string ⟨#[]⟩)).setCell q (.bool false) := by
  have hd2 : (w.setCell p (.string ⟨#[]⟩)).cell? q = some (.bool y) := by rw [World.cell?_setCell_other _ _ _ _ hpq]; exact hd
  refine callsD_of_wpS Tryd.func42 rfl fun c₀ cs hu => ?_
  apply wpS_seq
  apply wpS_region
  simp [wpOpsS, go_sem, recoverD, hu, Tryd.ntmps42, Exit.thenS]
  refine wpS_cond (t := true) (by simp [Act.eval, Array.replicate]) ?_
  simp only [if_true]
  apply wpS_region
  simp [wpOpsS, go_sem, hc, hz, hd2, hy, bodyPostS, results, Tryd.results42]

set_option maxRecDepth 100000 in
theorem catchS_idle (p q : Addr) (w : World) :
    CallsD Tryd.prog 42 #[.pointer (some p), .pointer (some q)] .returning w fun e u' w' => e = .returned (.tuple #[]) ∧ u' = .returning ∧ w' = w := by
  refine callsD_of_wpS Tryd.func42 rfl fun c₀ cs hu => ?_
  apply wpS_seq
  apply wpS_region
  simp [wpOpsS, go_sem, recoverD, hu, Tryd.ntmps42, Exit.thenS]
  refine wpS_cond (t := false) (by simp [Act.eval, Array.replicate]) ?_
  simp only [Bool.false_eq_true, if_false]
  refine wpS_of_wp (wp_skip ?_)
  cases c₀
  simp_all [bodyPostS, results, Tryd.results42]

/-- two new one-cell blocks in a later world -/
theorem two_cells {w w1 : World} {u v : Value} {T U : TypeId} (hb : Below ((w.alloc (.cells #[u] T)).alloc (.cells #[v] U)).heap.size ((w.alloc (.cells #[u] T)).alloc (.cells #[v] U)) w1) :
    w1.cell? ⟨w.heap.size, 0, none⟩ = some u ∧ w1.cell? ⟨w.heap.size + 1, 0, none⟩ = some v ∧ w1.frozen? ⟨w.heap.size, 0, none⟩ = false ∧ w1.frozen? ⟨w.heap.size + 1, 0, none⟩ = false ∧ Below w.heap.size w w1 := by
  have hz : ((w.alloc (.cells #[u] T)).alloc (.cells #[v] U)).heap.size = w.heap.size + 2 := by simp
  have h0 : ((w.alloc (.cells #[u] T)).alloc (.cells #[v] U)).heap[w.heap.size]? = some (.cells #[u] T (0, 0)) := (Lib.alloc_old _ _ _ (by simp)).trans (heap_alloc_new w _)
  have h1 : ((w.alloc (.cells #[u] T)).alloc (.cells #[v] U)).heap[w.heap.size + 1]? = some (.cells #[v] U (0, 0)) := by
    have := heap_alloc_new (w.alloc (.cells #[u] T)) (.cells #[v] U)
    simpa using this
  have k0 : w1.heap[w.heap.size]? = some (.cells #[u] T (0, 0)) := (hb.block _ (by omega)).trans h0
  have k1 : w1.heap[w.heap.size + 1]? = some (.cells #[v] U (0, 0)) := (hb.block _ (by omega)).trans h1
  refine ⟨by rw [Lib.cell_of_heap k0]; rfl, by rw [Lib.cell_of_heap k1]; rfl, Lib.frozen_of_heap k0 0, Lib.frozen_of_heap k1 0, ?_⟩
  exact (((Below.refl _ w).alloc (Nat.le_refl _) _).alloc (by simp) _).trans (hb.mono (by omega))
theorem addr_ne (k : Nat) : (⟨k, 0, none⟩ : Addr) ≠ ⟨k + 1, 0, none⟩ := by intro h; injection h with h; omega

set_option maxHeartbeats 1000000 in
set_option maxRecDepth 100000 in
theorem implSlice_bad (s : ByteArray) (st en : Int) (w : World) (hs : s.size ≤ 2147483647) (b1 : -9223372036854775808 ≤ st ∧ st ≤ 9223372036854775807) (b2 : -9223372036854775808 ≤ en ∧ en ≤ 9223372036854775807) (hT : Tabs w)
    (hbad : sliceBad (segs s.data.toList).length st en = true) :
    Calls Tryd.prog 17 #[.string s, .int .i64 st, .int .i64 en] w fun e w' => e = .returned (.tuple #[.string ⟨#[]⟩, .bool false]) ∧ Below w.heap.size w w' := by
  have cS : ∀ w, Tabs w → Calls Tryd.prog 43 #[.string s, .int .i64 st, .int .i64 en] w fun e w' => e = .panicked [{ v := .iface 9 (.string ⟨#[111, 117, 116, 32, 111, 102, 32, 114, 97, 110, 103, 101]⟩), recovered := false }] ∧ Below w.heap.size w w' := fun w hT => (slice_any s st en w hs b1 b2 hT).mono fun e w' ⟨he, hb⟩ => ⟨by rw [he, sliceEnd, if_pos hbad]; rfl, hb⟩
  have HS := Lib.hid cS
  clear cS hbad
  have hmf : ∀ (fn : Fn) (first cap : Array Value) (w : World), (Instr.makeFunc fn first cap).run Tryd.prog w = .ok (.func fn first cap) w := fun _ _ _ _ => rfl
  have hT2 : Tabs ((w.alloc (.cells #[.string ⟨#[]⟩] 9)).alloc (.cells #[.bool false] 4)) := hT.below (((Below.refl _ w).alloc (Nat.le_refl _) _).alloc (by simp) _)
  go_enter_defers Tryd.func17, Tryd.ntmps17
  go_wp2_with (go_at_call 43; refine (HS.out _ hT2).mono ?_; rintro e w1 ⟨rfl, hb⟩)
  obtain ⟨c0, c1, f0, f1, hbw⟩ := two_cells hb
  refine leaves_cons (f := 42) (args := #[.pointer (some ⟨w.heap.size, 0, none⟩), .pointer (some ⟨w.heap.size + 1, 0, none⟩)]) (by simp) (by simp [go_sem]) ?_
  refine (catchS_panicking ⟨w.heap.size, 0, none⟩ ⟨w.heap.size + 1, 0, none⟩ _ _ _ _ [] _ (addr_ne _) c0 f0 c1 f1).mono ?_
  rintro e u' w'' ⟨rfl, rfl, rfl⟩
  have d0 : ((w1.setCell ⟨w.heap.size, 0, none⟩ (.string ⟨#[]⟩)).setCell ⟨w.heap.size + 1, 0, none⟩ (.bool false)).cell? ⟨w.heap.size, 0, none⟩ = some (.string ⟨#[]⟩) := by
    rw [World.cell?_setCell_other _ _ _ _ (addr_ne _).symm]; exact World.cell?_setCell_same _ _ _ c0
  have d1 : ((w1.setCell ⟨w.heap.size, 0, none⟩ (.string ⟨#[]⟩)).setCell ⟨w.heap.size + 1, 0, none⟩ (.bool false)).cell? ⟨w.heap.size + 1, 0, none⟩ = some (.bool false) := by
    have h : (w1.setCell ⟨w.heap.size, 0, none⟩ (.string ⟨#[]⟩)).cell? ⟨w.heap.size + 1, 0, none⟩ = some (.bool false) := by rw [World.cell?_setCell_other _ _ _ _ (addr_ne _)]; exact c1
    exact World.cell?_setCell_same _ _ _ h
  have hbw2 : Below w.heap.size w ((w1.setCell ⟨w.heap.size, 0, none⟩ (.string ⟨#[]⟩)).setCell ⟨w.heap.size + 1, 0, none⟩ (.bool false)) := (hbw.setCell (p := ⟨w.heap.size, 0, none⟩) (Nat.le_refl _) _).setCell (p := ⟨w.heap.size + 1, 0, none⟩) (Nat.le_succ _) _
  generalize ((w1.setCell ⟨w.heap.size, 0, none⟩ (.string ⟨#[]⟩)).setCell ⟨w.heap.size + 1, 0, none⟩ (.bool false)) = wz at d0 d1 hbw2 ⊢
  simp [Leaves, settle, results, Tryd.results17, go_sem, d0, d1]
  exact hbw2

set_option maxHeartbeats 1000000 in
set_option maxRecDepth 100000 in
theorem implSlice_good (s : ByteArray) (st en : Int) (w : World) (hs : s.size ≤ 2147483647) (b1 : -9223372036854775808 ≤ st ∧ st ≤ 9223372036854775807) (b2 : -9223372036854775808 ≤ en ∧ en ≤ 9223372036854775807) (hT : Tabs w)
    (hgood : ¬ sliceBad (segs s.data.toList).length st en = true) :
    Calls Tryd.prog 17 #[.string s, .int .i64 st, .int .i64 en] w fun e w' => e = .returned (.tuple #[.string ⟨(sliceB (segs s.data.toList) st en).toArray⟩, .bool true]) ∧ Below w.heap.size w w' := by
  obtain ⟨r, hr⟩ : ∃ r : ByteArray, ⟨(sliceB (segs s.data.toList) st en).toArray⟩ = r := ⟨_, rfl⟩
  have cS : ∀ w, Tabs w → Calls Tryd.prog 43 #[.string s, .int .i64 st, .int .i64 en] w fun e w' => e = .returned (.string r) ∧ Below w.heap.size w w' := fun w hT => (slice_any s st en w hs b1 b2 hT).mono fun e w' ⟨he, hb⟩ => ⟨by rw [he, sliceEnd, if_neg hgood, hr], hb⟩
  rw [hr]
  have HS := Lib.hid cS
  clear cS hgood hr
  have hmf : ∀ (fn : Fn) (first cap : Array Value) (w : World), (Instr.makeFunc fn first cap).run Tryd.prog w = .ok (.func fn first cap) w := fun _ _ _ _ => rfl
  have hT2 : Tabs ((w.alloc (.cells #[.string ⟨#[]⟩] 9)).alloc (.cells #[.bool false] 4)) := hT.below (((Below.refl _ w).alloc (Nat.le_refl _) _).alloc (by simp) _)
  go_enter_defers Tryd.func17, Tryd.ntmps17
  go_wp2_with (go_at_call 43; refine (HS.out _ hT2).mono ?_; rintro e w1 ⟨rfl, hb⟩; obtain ⟨c0, c1, f0, f1, hbw⟩ := two_cells hb)
  refine leaves_cons (f := 42) (args := #[.pointer (some ⟨w.heap.size, 0, none⟩), .pointer (some ⟨w.heap.size + 1, 0, none⟩)]) (by simp) (by simp [go_sem]) ?_
  refine (catchS_idle ⟨w.heap.size, 0, none⟩ ⟨w.heap.size + 1, 0, none⟩ _).mono ?_
  rintro e u' w'' ⟨rfl, rfl, rfl⟩
  have d0 : ((w1.setCell ⟨w.heap.size, 0, none⟩ (.string r)).setCell ⟨w.heap.size + 1, 0, none⟩ (.bool true)).cell? ⟨w.heap.size, 0, none⟩ = some (.string r) := by
    rw [World.cell?_setCell_other _ _ _ _ (addr_ne _).symm]; exact World.cell?_setCell_same _ _ _ c0
  have d1 : ((w1.setCell ⟨w.heap.size, 0, none⟩ (.string r)).setCell ⟨w.heap.size + 1, 0, none⟩ (.bool true)).cell? ⟨w.heap.size + 1, 0, none⟩ = some (.bool true) := by
    have h : (w1.setCell ⟨w.heap.size, 0, none⟩ (.string r)).cell? ⟨w.heap.size + 1, 0, none⟩ = some (.bool false) := by rw [World.cell?_setCell_other _ _ _ _ (addr_ne _)]; exact c1
    exact World.cell?_setCell_same _ _ _ h
  have hbw2 : Below w.heap.size w ((w1.setCell ⟨w.heap.size, 0, none⟩ (.string r)).setCell ⟨w.heap.size + 1, 0, none⟩ (.bool true)) := (hbw.setCell (p := ⟨w.heap.size, 0, none⟩) (Nat.le_refl _) _).setCell (p := ⟨w.heap.size + 1, 0, none⟩) (Nat.le_succ _) _
  generalize ((w1.setCell ⟨w.heap.size, 0, none⟩ (.string r)).setCell ⟨w.heap.size + 1, 0, none⟩ (.bool true)) = wz at d0 d1 hbw2 ⊢
  simp [Leaves, settle, results, Tryd.results17, go_sem, d0, d1]
  exact hbw2
end Go.Proofs.YtobcoplfniojkaaDoor
