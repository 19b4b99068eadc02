/- ZzItems: the lexer's items as a row of one's own. -/
import Derived.Test.YtackciefmdiphaaGreatDoorParM3
set_option linter.unusedVariables false
namespace Go.Proofs.YtackciefmdiphaaGreatDoor
open Go.RowKit Plain Go.Maps

theorem infoZz : (Tryz.prog.info? 80).map (fun i => (i.zero, i.size, i.bytes)) = some (some (.agg #[.int .i64 0, .int .i64 0, .string ⟨#[]⟩]), 3, 32) := by kernel_rfl
def ZzPost (s : ByteArray) (w : World) (e : Ending) (w' : World) : Prop := ∃ v, e = .returned v ∧ w'.ownsRow w.heap.size 80 3 v (lexL s).length (itemsC (lexL s)) ∧ Below w.heap.size w w'
set_option maxHeartbeats 8000000 in
set_option maxRecDepth 100000 in
theorem zzItems_any (s : ByteArray) (w : World) (hs : s.size ≤ 100000) (hT : Tabs w) : Calls Tryz.prog 39 #[.string s] w (ZzPost s w) := by
  unfold ZzPost
  obtain ⟨i0, hi, hz0, hz1, hz2⟩ := info_parts infoZz
  have HLX := Lib.hid (lex_any s w hs hT)
  have hne : lexL s ≠ [] := fun e => by
    have := wfI_lexL s
    rw [e] at this
    exact this
  have hlen := lexN_len s (4 * s.size + 4) .before 0
  have hlen2 : (lexL s).length ≤ 10000000 := by unfold lexL; omega
  obtain ⟨L, hL⟩ : ∃ L, lexL s = L := ⟨_, rfl⟩
  obtain ⟨nL, hnL⟩ : ∃ nL, L.length = nL := ⟨_, rfl⟩
  have HLL := Lib.hid hL
  have HNL := Lib.hid hnL
  rw [hL] at hne hlen2
  rw [hnL] at hlen2
  clear hL hlen hT hnL
  go_enter Tryz.func39, Tryz.ntmps39
  go_wp2_with (go_at_call 60; (with_reducible refine HLX.out.mono ?_); rintro e w1 ⟨lb, q0, st0, rs0, rfl, hy, hb1⟩; rw [HLL.out] at hy; obtain ⟨g, st, pos, start, wd, lp, rv, o, c, cs, hlb, hc1, hc2, hat, hgb⟩ := hy.it hne; rw [HNL.out] at hlb; have hc7 : w1.cell? ⟨lb, 7, none⟩ = some (.slice (some ⟨g, o, none⟩) nL c) := (by unfold lxC at hlb; simp [World.cell?, hlb]); have HB1 := Lib.hid hb1; have HAT := Lib.hid hat; have HGB := Lib.hid hgb; clear hlb hy hc1 hc2 hat hgb hb1; dsimp only)
  clear hc7 HLX
  go_loopg [3, 12] nL (fun g' v3 v12 wr => ∃ i : Nat, v12 = .int .i64 (i : Int) ∧ i ≤ nL ∧ g' = nL - i ∧ Hid (wr.ownsRow w1.heap.size 80 3 v3 i (itemsC (L.take i))) ∧ Hid (Below w1.heap.size w1 wr))
  case atStart => exact ⟨0, rfl, Nat.zero_le _, rfl, Lib.hid ⟨by simp [itemsC], .inl ⟨rfl, rfl⟩⟩, Lib.hid (Below.refl _ _)⟩
  case round =>
    obtain ⟨i, rfl, hin, rfl, HR, HB⟩ := hrel
    by_cases hlt : i < nL
    · have hiz : (i : Int) < (nL : Int) := by omega
      obtain ⟨x, hx⟩ : ∃ x, L[i]? = some x := ⟨_, List.getElem?_eq_getElem (by have := HNL.out; omega)⟩
      obtain ⟨x0, x1, x2⟩ := (HAT.out i x hx).keep (HB.out.block g (lx_lt HGB.out))
      obtain ⟨K, hK⟩ : ∃ K : Int, (x.kind : Int) = K := ⟨_, rfl⟩
      obtain ⟨P, hP⟩ : ∃ P : Int, (x.pos : Int) = P := ⟨_, rfl⟩
      obtain ⟨T, hTx⟩ : ∃ T, x.text = T := ⟨_, rfl⟩
      have HC : Hid (itemC x = [.int .i64 K, .int .i64 P, .string T]) := Lib.hid (by unfold itemC; rw [hK, hP, hTx])
      rw [hK] at x0
      rw [hP] at x1
      rw [hTx] at x2
      rw [Nat.mul_comm 3 i] at x0 x1 x2
      have HX := Lib.hid hx
      clear hx hK hP hTx
      have HXC : Hid (itemsC (L.take (i + 1)) = itemsC (L.take i) ++ [.int .i64 K, .int .i64 P, .string T]) := Lib.hid (by rw [List.take_add_one, HX.out, ← HC.out]; simp [itemsC])
      have HBs := HB.out.size
      go_wp2_with (at_builtin; refine wpList_append_own_at _ rfl _ _ 77 rfl w1.heap.size 80 i0 (.agg #[.int .i64 0, .int .i64 0, .string ⟨#[]⟩]) 3 32 Tryz.underlying77 hi hz0 hz1 hz2 rfl (by decide) u3 i (itemsC (L.take i)) rfl ((HR.out.alloc _).alloc _) ⟨wr.heap.size + 1, 0, none⟩ 1 1 [.int .i64 K, .int .i64 P, .string T] rfl rfl (by have := cell_three_new (wr.alloc (.cells #[.int .i64 K, .int .i64 P, .string T] 121)) (.int .i64 K) (.int .i64 P) (.string T) 80; simpa using this) (by intro u hu; simp at hu; rcases hu with rfl | rfl | rfl <;> rfl) (by unfold maxLen; omega) (by omega) (by simp; omega) ?_; intro v' w6 hown6 hgr6 _ hsh6; have HO6 := Lib.hid hown6; have HG6 := Lib.hid hgr6; clear hown6 hgr6 hsh6)
      have HR2 : Hid (w6.ownsRow w1.heap.size 80 3 v' (i + 1) (itemsC (L.take (i + 1)))) := Lib.hid (by rw [HXC.out]; exact HO6.out)
      have HB2 : Hid (Below w1.heap.size w1 w6) := Lib.hid (((HB.out.alloc HB.out.size _).alloc (by simp; omega) _).grown HG6.out (by simp; omega) (fun g hg => (row_lt HR.out hg).1))
      go_roundg (nL - (i + 1))
      case measure => omega
      case rel => exact ⟨i + 1, by go_num, by omega, rfl, HR2, HB2⟩
    · have hiz : ¬ (i : Int) < (nL : Int) := by omega
      obtain rfl : i = nL := by omega
      have HEND : Hid (wr.ownsRow w1.heap.size 80 3 u3 (lexL s).length (itemsC (lexL s))) := Lib.hid (by
        have h := HR.out
        rw [List.take_of_length_le (Nat.le_of_eq HNL.out)] at h
        rw [HLL.out, HNL.out]
        exact h)
      have HBE : Hid (Below w.heap.size w wr) := Lib.hid (bthen HB1.out HB.out)
      have hsz := HB1.out.size
      go_wp2
      go_ret
      exact ⟨u3, rfl, row_base HEND.out hsz, HBE.out⟩
end Go.Proofs.YtackciefmdiphaaGreatDoor
