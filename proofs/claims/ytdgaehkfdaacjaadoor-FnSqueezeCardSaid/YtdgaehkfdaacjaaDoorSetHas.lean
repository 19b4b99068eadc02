/- The walk of spec.Set's method 'has'. -/
import Derived.Test.YtdgaehkfdaacjaaDoorPatMem
import Derived.Test.YtdgaehkfdaacjaaDoorPatDelS
import Derived.Deep.LoopGhost
set_option linter.unusedVariables false
namespace Go.Proofs.YtdgaehkfdaacjaaDoor
open Go.RowKit Plain

theorem any_take {L : List Nat} {i : Nat} {x r : Nat} (h : L[i]? = some x) : (r ∈ L.take (i + 1)) ↔ r ∈ L.take i ∨ r = x := by
  obtain ⟨h1, h2⟩ := List.getElem?_eq_some_iff.1 h
  rw [List.take_add_one, h]
  simp
set_option maxHeartbeats 4000000 in
theorem setHas_any (L : List Nat) (nt : Bool) (r : Nat) (A : Option Addr) (cap b0 : Nat) (w : World) (hown : w.ownsRow b0 21 1 (.slice A L.length cap) L.length (L.map rcell)) (hl : L.length ≤ 9223372036854775807)
    (b : Bool) (hb : inB L nt r = b) :
    Calls Tryd.prog 31 #[.agg #[.slice A L.length cap, .bool nt], .int .i32 (r : Int)] w fun e w' => e = .returned (.bool b) ∧ Below w.heap.size w w' := by
  obtain ⟨n, hn⟩ : ∃ n, L.length = n := ⟨_, rfl⟩
  rw [hn] at hown hl ⊢
  have HN := Lib.hid hn
  have HO := Lib.hid hown
  have HB := Lib.hid hb
  clear hn hown hb
  obtain ⟨W, hW⟩ : ∃ W, w.alloc (.cells #[.slice A n cap, .bool nt] 40) = W := ⟨_, rfl⟩
  have hWb : Below w.heap.size w W := hW ▸ ((Below.refl _ w).alloc (Nat.le_refl _) _)
  have hWo : W.ownsRow b0 21 1 (.slice A n cap) n (L.map rcell) := hW ▸ HO.out.alloc _
  have hWc : W.heap[w.heap.size]? = some (.cells #[.slice A n cap, .bool nt] 40 (0, 0)) := hW ▸ heap_alloc_new w _
  obtain ⟨c0, c1, _, _⟩ := two_cells hWc
  have HWB := Lib.hid hWb
  have HWO := Lib.hid hWo
  clear hWb hWo hWc
  go_enter Tryd.func31, Tryd.ntmps31
  go_wp2
  clear hW HO
  go_loopg [10] n (fun g iv wr => ∃ k : Nat, iv = .int .i64 k ∧ k ≤ n ∧ g = n - k ∧ Hid (r ∉ L.take k) ∧ W = wr)
  case atStart => exact ⟨0, rfl, by omega, by omega, Lib.hid (by simp), rfl⟩
  case round =>
    obtain ⟨k, rfl, hk, rfl, HK, rfl⟩ := hrel
    by_cases hlt : k < n
    · have hltz : (k : Int) < (n : Int) := by omega
      obtain ⟨g, rfl⟩ : ∃ g, A = some ⟨g, 0, none⟩ := by
        rcases HWO.out.2 with ⟨hv, h0⟩ | ⟨g, cap, cur, hv, _⟩
        · omega
        · injection hv with h1; exact ⟨g, h1⟩
      obtain ⟨x, hx⟩ : ∃ x, L[k]? = some x := ⟨_, List.getElem?_eq_getElem (by rw [HN.out]; exact hlt)⟩
      have hcell : W.cell? ⟨g, k, none⟩ = some (.int .i32 (x : Int)) := by
        rw [HWO.out.cellAt k (by omega), List.getElem?_map, hx]
        rfl
      have HT := Lib.hid (any_take (r := r) hx)
      have HX := Lib.hid (List.mem_of_getElem? hx)
      clear hx
      by_cases hxr : x = r
      · have hz : ((x : Int) == (r : Int)) = true := by rw [beq_iff_eq]; omega
        have HBB : Hid ((!nt) = b) := Lib.hid (by
          rw [← HB.out]
          unfold inB
          rw [decide_eq_true (hxr ▸ HX.out)]
          cases nt <;> rfl)
        clear hxr
        go_wp2_with fail
        go_ret
        exact ⟨congrArg (fun z => Ending.returned (.bool z)) HBB.out, HWB.out⟩
      · have hz : ((x : Int) == (r : Int)) = false := by rw [beq_eq_false_iff_ne]; omega
        have HK2 : Hid (r ∉ L.take (k + 1)) := Lib.hid (fun y => (HT.out.1 y).elim HK.out (fun z => hxr z.symm))
        clear hxr
        go_wp2_with fail
        go_roundg (n - (k + 1))
        case measure => omega
        case rel => exact ⟨k + 1, by go_num, by omega, rfl, HK2, rfl⟩
    · have hltz : ¬ (k : Int) < (n : Int) := by omega
      have HBB : Hid (nt = b) := Lib.hid (by
        have h1 := HK.out
        rw [List.take_of_length_le (by rw [HN.out]; omega)] at h1
        rw [← HB.out]
        unfold inB
        rw [decide_eq_false h1]
        cases nt <;> rfl)
      go_wp2_with fail
      go_ret
      exact ⟨congrArg (fun z => Ending.returned (.bool z)) HBB.out, HWB.out⟩
end Go.Proofs.YtdgaehkfdaacjaaDoor
