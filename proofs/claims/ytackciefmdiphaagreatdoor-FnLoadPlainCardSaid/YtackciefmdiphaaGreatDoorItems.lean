/- impl.Items: the lexer's items as a row of the door's own. -/
import Derived.Test.YtackciefmdiphaaGreatDoorZzIt
set_option linter.unusedVariables false
namespace Go.Proofs.YtackciefmdiphaaGreatDoor
open Go.RowKit Plain Go.Maps

theorem row_slq {w : World} {B n sz : Nat} {e : TypeId} {v : Value} {xs : List Value} (h : w.ownsRow B e sz v n xs) (hn : 0 < n) : ∃ G cap, v = .slice (some ⟨G, 0, none⟩) n cap := by
  rcases h.2 with ⟨_, h0⟩ | ⟨g, cap, cur, hv, _⟩
  · omega
  · exact ⟨g, cap, hv⟩
theorem infoIt : (Tryz.prog.info? 46).map (fun i => (i.zero, i.size, i.bytes)) = some (some (.agg #[.int .i64 0, .int .i64 0, .string ⟨#[]⟩]), 3, 32) := by kernel_rfl
/-- an item as the door tells it -/
def outX (x : LI) : LI := if x.kind = 0 then ⟨0, x.pos, emptyB⟩ else x
def outI (l : List LI) : List LI := l.map outX
def ItPost (s : ByteArray) (w : World) (e : Ending) (w' : World) : Prop := ∃ v, e = .returned v ∧ w'.ownsRow w.heap.size 46 3 v (lexL s).length (itemsC (outI (lexL s))) ∧ Below w.heap.size w w'
set_option maxHeartbeats 8000000 in
set_option maxRecDepth 100000 in
theorem items_any (s : ByteArray) (w : World) (hs : s.size ≤ 100000) (hT : Tabs w) : Calls Tryz.prog 21 #[.string s] w (ItPost s w) := by
  unfold ItPost
  obtain ⟨i0, hi, hz0, hz1, hz2⟩ := info_parts infoIt
  have HLX := Lib.hid (zzItems_any s w hs hT)
  have hne : lexL s ≠ [] := fun e => by
    have := wfI_lexL s
    rw [e] at this
    exact this
  have hlen := lexN_len s (4 * s.size + 4) .before 0
  have hlen2 : (lexL s).length ≤ 10000000 := by unfold lexL; omega
  obtain ⟨L, hL⟩ : ∃ L, lexL s = L := ⟨_, rfl⟩
  obtain ⟨nL, hnL⟩ : ∃ nL, L.length = nL := ⟨_, rfl⟩
  have hpos : 0 < nL := by rw [← hnL, ← hL]; exact List.length_pos_iff.2 hne
  have HLL := Lib.hid hL
  have HNL := Lib.hid hnL
  rw [hL] at hne hlen2
  rw [hnL] at hlen2
  clear hL hlen hT hnL
  go_enter Tryz.func21, Tryz.ntmps21
  go_wp2_with (go_at_call 39; (with_reducible refine HLX.out.mono ?_); rintro e w1 ⟨v, rfl, hrow, hb1⟩; rw [HLL.out, HNL.out] at hrow; obtain ⟨g, cap, rfl⟩ := row_slq hrow hpos; have HB1 := Lib.hid hb1; have HROW := Lib.hid hrow; clear hb1 hrow; dsimp only)
  clear HLX
  go_loopg [3, 9] nL (fun g' v3 v9 wr => ∃ i : Nat, v9 = .int .i64 (i : Int) ∧ i ≤ nL ∧ g' = nL - i ∧ Hid (wr.ownsRow w1.heap.size 46 3 v3 i (itemsC (outI (L.take i)))) ∧ Hid (Below w1.heap.size w1 wr))
  case atStart => exact ⟨0, rfl, Nat.zero_le _, rfl, Lib.hid ⟨by simp [itemsC, outI], .inl ⟨rfl, rfl⟩⟩, Lib.hid (Below.refl _ _)⟩
  case round =>
    obtain ⟨i, rfl, hin, rfl, HR, HB⟩ := hrel
    by_cases hlt : i < nL
    · have hiz : (i : Int) < (nL : Int) := by omega
      obtain ⟨x, hx⟩ : ∃ x, L[i]? = some x := ⟨_, List.getElem?_eq_getElem (by have := HNL.out; omega)⟩
      have hrw := row_keep HROW.out (fun g hg => HB.out.block g (row_lt HROW.out hg).2)
      have x0 : wr.cell? ⟨g, i * 3, none⟩ = some (.int .i64 (x.kind : Int)) := (hrw.cellAt (i * 3) (by omega)).trans (by rw [Nat.mul_comm]; exact (itemsC_at L i x hx).1)
      have x1 : wr.cell? ⟨g, i * 3 + 1, none⟩ = some (.int .i64 (x.pos : Int)) := (hrw.cellAt (i * 3 + 1) (by omega)).trans (by rw [Nat.mul_comm]; exact (itemsC_at L i x hx).2.1)
      have x2 : wr.cell? ⟨g, i * 3 + 2, none⟩ = some (.string x.text) := (hrw.cellAt (i * 3 + 2) (by omega)).trans (by rw [Nat.mul_comm]; exact (itemsC_at L i x hx).2.2)
      obtain ⟨K, hK⟩ : ∃ K : Int, (x.kind : Int) = K := ⟨_, rfl⟩
      obtain ⟨P, hP⟩ : ∃ P : Int, (x.pos : Int) = P := ⟨_, rfl⟩
      obtain ⟨T, hTx⟩ : ∃ T, x.text = T := ⟨_, rfl⟩
      rw [hK] at x0
      rw [hP] at x1
      rw [hTx] at x2
      have HX := Lib.hid hx
      have HBs := HB.out.size
      clear hrw
      by_cases hk0 : x.kind = 0
      · have HXC : Hid (itemsC (outI (L.take (i + 1))) = itemsC (outI (L.take i)) ++ [.int .i64 0, .int .i64 P, .string ⟨#[]⟩]) := Lib.hid (by
          rw [List.take_add_one, HX.out]
          have hox : outX x = ⟨0, x.pos, emptyB⟩ := by unfold outX; rw [if_pos hk0]
          simp [itemsC, outI, hox, itemC, hP]
          rfl)
        obtain rfl : K = 0 := by omega
        clear hx hK hP hTx
        go_wp2_with (at_builtin; refine wpList_append_own_at _ rfl _ _ 43 rfl w1.heap.size 46 i0 (.agg #[.int .i64 0, .int .i64 0, .string ⟨#[]⟩]) 3 32 Tryz.underlying43 hi hz0 hz1 hz2 rfl (by decide) u3 i (itemsC (outI (L.take i))) rfl ((HR.out.alloc _).alloc _) ⟨wr.heap.size + 1, 0, none⟩ 1 1 [.int .i64 0, .int .i64 P, .string ⟨#[]⟩] rfl rfl (by have := cell_three_new (wr.alloc (.cells #[.int .i64 0, .int .i64 P, .string ⟨#[]⟩] 80)) (.int .i64 0) (.int .i64 P) (.string ⟨#[]⟩) 46; simpa using this) (by intro u hu; simp at hu; rcases hu with rfl | rfl | rfl <;> rfl) (by unfold maxLen; omega) (by omega) (by simp; omega) ?_; intro v' w6 hown6 hgr6 _ hsh6; have HO6 := Lib.hid hown6; have HG6 := Lib.hid hgr6; clear hown6 hgr6 hsh6)
        have HR2 : Hid (w6.ownsRow w1.heap.size 46 3 v' (i + 1) (itemsC (outI (L.take (i + 1))))) := Lib.hid (by rw [HXC.out]; exact HO6.out)
        have HB2 : Hid (Below w1.heap.size w1 w6) := Lib.hid (((HB.out.alloc HB.out.size _).alloc (by simp; omega) _).grown HG6.out (by simp; omega) (fun g hg => (row_lt HR.out hg).1))
        go_roundg (nL - (i + 1))
        case measure => omega
        case rel => exact ⟨i + 1, by go_num, by omega, rfl, HR2, HB2⟩
      · have HXC : Hid (itemsC (outI (L.take (i + 1))) = itemsC (outI (L.take i)) ++ [.int .i64 K, .int .i64 P, .string T]) := Lib.hid (by
          rw [List.take_add_one, HX.out]
          have hox : outX x = x := by unfold outX; rw [if_neg hk0]
          simp [itemsC, outI, hox, itemC, hP, hK, hTx])
        have hKb : (K == (0 : Int)) = false := by rw [beq_eq_false_iff_ne]; omega
        clear hx hK hP hTx
        go_wp2_with (at_builtin; refine wpList_append_own_at _ rfl _ _ 43 rfl w1.heap.size 46 i0 (.agg #[.int .i64 0, .int .i64 0, .string ⟨#[]⟩]) 3 32 Tryz.underlying43 hi hz0 hz1 hz2 rfl (by decide) u3 i (itemsC (outI (L.take i))) rfl ((HR.out.alloc _).alloc _) ⟨wr.heap.size + 1, 0, none⟩ 1 1 [.int .i64 K, .int .i64 P, .string T] rfl rfl (by have := cell_three_new (wr.alloc (.cells #[.int .i64 K, .int .i64 P, .string T] 80)) (.int .i64 K) (.int .i64 P) (.string T) 46; simpa using this) (by intro u hu; simp at hu; rcases hu with rfl | rfl | rfl <;> rfl) (by unfold maxLen; omega) (by omega) (by simp; omega) ?_; intro v' w6 hown6 hgr6 _ hsh6; have HO6 := Lib.hid hown6; have HG6 := Lib.hid hgr6; clear hown6 hgr6 hsh6)
        have HR2 : Hid (w6.ownsRow w1.heap.size 46 3 v' (i + 1) (itemsC (outI (L.take (i + 1))))) := Lib.hid (by rw [HXC.out]; exact HO6.out)
        have HB2 : Hid (Below w1.heap.size w1 w6) := Lib.hid (((HB.out.alloc HB.out.size _).alloc (by simp; omega) _).grown HG6.out (by simp; omega) (fun g hg => (row_lt HR.out hg).1))
        go_roundg (nL - (i + 1))
        case measure => omega
        case rel => exact ⟨i + 1, by go_num, by omega, rfl, HR2, HB2⟩
    · have hiz : ¬ (i : Int) < (nL : Int) := by omega
      obtain rfl : i = nL := by omega
      have HEND : Hid (wr.ownsRow w1.heap.size 46 3 u3 (lexL s).length (itemsC (outI (lexL s)))) := Lib.hid (by
        have h := HR.out
        rw [List.take_of_length_le (Nat.le_of_eq HNL.out)] at h
        rw [HLL.out, HNL.out]
        exact h)
      have HBE : Hid (Below w.heap.size w wr) := Lib.hid (bthen HB1.out HB.out)
      have hsz := HB1.out.size
      go_wp2
      go_ret
      exact ⟨u3, rfl, row_base HEND.out hsz, HBE.out⟩
end Go.Proofs.YtackciefmdiphaaGreatDoor
