/- Keys of properties in memory. -/
import Derived.Test.YtackciefmdiphaaGreatDoorComGet
import Derived.Laws.CopyOwn
import Derived.OwnWalk
set_option linter.unusedVariables false
namespace Go.Proofs.YtackciefmdiphaaGreatDoor
open Go.RowKit Plain Go.Maps

theorem key_cell {w w1 : World} {a : Addr} {v : Value} (hg : w.grownBy w1 none) (h : w.cell? a = some v) : w1.cell? a = some v := by
  have hb := hg.block a.block (Lib.lt_of_cell h) (by simp)
  unfold World.cell? at h ⊢
  rw [hb]
  exact h
theorem row_cur {w : World} {B g n cp : Nat} {xs : List Value} (h : w.ownsRow B 9 1 (.slice (some ⟨g, 0, none⟩) n cp) n xs) : ∃ cur : Array Value, w.heap[g]? = some (.cells cur 9 (0, 0)) ∧ cur.size = cp := by
  rcases h.2 with ⟨hv, _⟩ | ⟨g', cap, cur, hv, q1, q2, q3, q4, q5, q6⟩
  · cases hv
  · injection hv with hv1 hv2 hv3
    injection hv1 with hv1
    injection hv1 with hv1
    subst hv1
    subst hv3
    exact ⟨cur, q2, by simpa using q5⟩
theorem row_src {w w1 : World} {B g n cp : Nat} {xs : List Value} (h : w.ownsRow B 9 1 (.slice (some ⟨g, 0, none⟩) n cp) n xs) (hg : w.grownBy w1 none) : ∀ j v, xs[j]? = some v → w1.cell? ((⟨g, 0, none⟩ : Addr).add j) = some v := by
  intro j v hv
  have hr := row_keep h (fun k hk => hg.block k (row_lt h hk).2 (by simp))
  have hj : j < n * 1 := by
    rcases h.2 with ⟨hv', _⟩ | ⟨g', cap, cur, hv', q1, q2, q3, q4, q5, q6⟩
    · cases hv'
    · have h9 := (List.getElem?_eq_some_iff.1 hv).1
      rw [← q6, List.length_take] at h9
      omega
  rw [add_at, Nat.zero_add, hr.cellAt j hj]
  exact hv
def KeysPost (n : Nat) (xs : List Value) (w : World) (e : Ending) (w' : World) : Prop := ∃ G, e = .returned (.slice (some ⟨G, 0, none⟩) n n) ∧ w'.ownsRow w.heap.size 9 1 (.slice (some ⟨G, 0, none⟩) n n) n xs ∧ Below w.heap.size w w'
set_option maxRecDepth 100000 in
theorem keys_any (B pb g cp n : Nat) (xs : List Value) (w : World) (c5 : w.cell? ⟨pb, 5, none⟩ = some (.slice (some ⟨g, 0, none⟩) n cp)) (h : w.ownsRow B 9 1 (.slice (some ⟨g, 0, none⟩) n cp) n xs) (hn : n ≤ 10000000) (h1 : ∀ v ∈ xs, v.oneCell' = true) :
    Calls Tryz.prog 51 #[.pointer (some ⟨pb, 0, none⟩)] w (KeysPost n xs w) := by
  unfold KeysPost
  obtain ⟨i0, hi, hz0, hz1, hz2⟩ := info_parts infoStr
  have HR := Lib.hid h
  have H1 := Lib.hid h1
  have HC5 := Lib.hid c5
  have hlt := (row_lt h rfl).2
  have hpl := Lib.lt_of_cell c5
  have hxl : xs.length = n := by
    rcases h.2 with ⟨hv, _⟩ | ⟨g', cap, cur, hv, q1, q2, q3, q4, q5, q6⟩
    · cases hv
    · have := congrArg List.length q6
      rw [List.length_take] at this
      simp at q5 this
      omega
  have HXL := Lib.hid hxl
  have hsz1 : (Tryz.prog.info? 9).map (·.size) = some 1 := by rw [hi]; simp [hz1]
  have HS1 := Lib.hid hsz1
  clear h h1 hxl hsz1
  go_enter Tryz.func51, Tryz.ntmps51
  go_wp2_with (first | (at_make; refine wpList_make_full _ rfl _ _ 22 rfl w.heap.size 9 i0 (.string ⟨#[]⟩) 1 Tryz.underlying22 hi hz0 hz1 .i64 .i64 _ _ n rfl rfl rfl rfl (by rw [hz2]; omega) (by unfold maxLen; omega) (Nat.le_refl _) ?_; intro w1 how hgw; have d5 := key_cell hgw c5; obtain ⟨cur, hcur, hcs⟩ := row_cur how; have HGW := Lib.hid hgw; have HCUR := Lib.hid hcur; have HCS := Lib.hid hcs; have hcp := run_copy_row (P := Tryz.prog) w1 22 22 3 9 w.heap.size 0 n n ⟨g, 0, none⟩ n cp cur 9 xs Tryz.underlying22 HS1.out HCUR.out (by rw [HXL.out]; simp) (row_src HR.out HGW.out) (by rw [HXL.out, HCS.out]; omega) H1.out; clear how hgw hcur hcs c5))
  go_ret
  refine ⟨w.heap.size, rfl, ⟨by have := HXL.out; omega, .inr ⟨w.heap.size, n, xs.toArray, rfl, Nat.le_refl _, ?_, Nat.le_refl _, by unfold maxLen; omega, by simp [HXL.out], by simp; exact List.take_of_length_le (by have := HXL.out; omega)⟩⟩, below_setRow ((Below.refl _ w).grown HGW.out (Nat.le_refl _) (fun g hg => by cases hg)) (Nat.le_refl _) _⟩
  rw [setRow_heap _ _ cur _ _ _ HCUR.out]
  congr 2
  apply Array.toList_inj.1
  simp [HXL.out, List.drop_eq_nil_of_le, HCS.out]
end Go.Proofs.YtackciefmdiphaaGreatDoor
