/- The walk of spec.fill. -/
import Derived.Test.YtobcoplfniojkaaDoorSRow
import Derived.Test.YtobcoplfniojkaaDoorPadL
import Derived.Test.YtobcoplfniojkaaDoorPadLaw
import Derived.Deep.LoopGhost
set_option linter.unusedVariables false
namespace Go.Proofs.YtobcoplfniojkaaDoor
open Go.RowKit Plain

theorem cyc_pieces (ps : List (List UInt8)) (h : 0 < ps.length) (k : Nat) : cyc (ps.map runeOf) k = (padP ps k).map runeOf := by
  apply List.ext_getElem?
  intro i
  by_cases hi : i < k
  · have hm : i % ps.length < ps.length := Nat.mod_lt _ h
    rw [List.getElem?_map, padP_get ps h k i hi]
    simp [cyc, hi, List.getD, List.getElem?_map, List.getElem?_eq_getElem hm]
  · rw [List.getElem?_eq_none (by rw [cyc_length]; omega), List.getElem?_eq_none (by rw [List.length_map, padP_length k h]; omega)]
theorem text_pad (p : List UInt8) (h : Lib.validD p = true) (h0 : p ≠ []) (k : Nat) : textOf (cyc (rnsOf p) k) = ⟨(padOf (segs p) k).toArray⟩ := by
  have hg := padP_good k (segs_good p h)
  show textOf (cyc ((segs p).map runeOf) k) = _
  rw [cyc_pieces _ (segs_len_pos h0), padOf_flat]
  have := textOf_good _ hg
  rw [← this]
set_option maxHeartbeats 4000000 in
set_option maxRecDepth 100000 in
theorem fill_any (p : ByteArray) (k : Nat) (w : World) (hp : 0 < p.size) (hps : p.size ≤ 2147483647) (hv : Lib.validD p.data.toList = true) (hk : k ≤ 10000000000000) :
    Calls Tryd.prog 51 #[.string p, .int .i64 (k : Int)] w fun e w' => e = .returned (.string ⟨(padOf (segs p.data.toList) k).toArray⟩) ∧ Below w.heap.size w w' := by
  obtain ⟨i0, hi, hz0, hz1, hz2⟩ := info_parts infoRune
  have hne : p.data.toList ≠ [] := fun e => by rw [Lib.size_eq, e] at hp; cases hp
  have hR := text_pad p.data.toList hv hne k
  have hN0 : 0 < (rnsOf p.data.toList).length := by unfold rnsOf; rw [List.length_map]; exact segs_len_pos hne
  have hNb := rnsOf_length_le p.data.toList
  rw [← Lib.size_eq] at hNb
  obtain ⟨CAP, W1, hcv, hcap, hra, hb1, hlt⟩ := conv_runes p w hps
  generalize rnsOf p.data.toList = xs at hR hN0 hNb hcv hcap hra
  rw [← hR]
  obtain ⟨N, hN⟩ : ∃ N, xs.length = N := ⟨_, rfl⟩
  rw [hN] at hcv hcap hN0 hNb
  have HN := Lib.hid hN
  have HRA := Lib.hid hra
  have HB1 := Lib.hid hb1
  have HLT := Lib.hid hlt
  have HCV := Lib.hid hcv
  clear hN hra hb1 hlt hR hv hne hcv
  go_enter Tryd.func51, Tryd.ntmps51
  go_wp2
  rw [HCV.out]
  go_wp2
  go_loopg [6, 7] k (fun gh ov iv wr => ∃ i : Nat, iv = .int .i64 i ∧ i ≤ k ∧ gh = k - i ∧ wr.ownsRow W1.heap.size 21 1 ov (cyc xs i).length (rcells (cyc xs i)) ∧ Hid (Below W1.heap.size W1 wr))
  case atStart => exact ⟨0, rfl, by omega, by omega, World.ownsRow_nil _ _ _ _, Lib.hid (Below.refl _ _)⟩
  case round =>
    obtain ⟨i, rfl, hik, rfl, how, HBR⟩ := hrel
    obtain ⟨A2, kc2, rfl⟩ := sr_shape how
    have HOW := Lib.hid how
    clear how
    by_cases hlt : i < k
    · have hz : (i : Int) < (k : Int) := by omega
      obtain ⟨r, hr⟩ : ∃ r, i % N = r := ⟨_, rfl⟩
      have hrN : r < N := by rw [← hr]; exact Nat.mod_lt _ hN0
      have hrem : Int.tmod (i : Int) (N : Int) = (r : Int) := by rw [← hr]; rfl
      obtain ⟨y, hy⟩ : ∃ y, xs[r]? = some y := ⟨xs[r]'(by rw [HN.out]; exact hrN), List.getElem?_eq_getElem _⟩
      have hcell0 := runesAt_bl (runesAt_bl HRA.out (Below.refl _ _) HLT.out) (Below.refl _ _) HLT.out r y hy
      have hcell : wr.cell? ⟨w.heap.size, r, none⟩ = some (.int .i32 (y : Int)) := by
        rw [sr_add, Nat.zero_add] at hcell0
        exact (HBR.out.cell (p := ⟨w.heap.size, r, none⟩) HLT.out).trans hcell0
      have hclen : (cyc xs i).length = i := cyc_length xs i
      have hsu : cyc xs (i + 1) = cyc xs i ++ [y] := by rw [cyc_succ, HN.out, hr, List.getD, hy]; rfl
      have HSU := Lib.hid hsu
      have HCL := Lib.hid hclen
      rw [hclen] at HOW ⊢
      have hW : W1.heap.size ≤ wr.heap.size := HBR.out.size
      have hNz : (0 : Int) < (N : Int) := by omega
      have hrz : (r : Int) < (N : Int) := by omega
      clear hcell0 hy hr hclen hsu
      go_wp2_with (at_builtin; refine wpList_append_own_at _ rfl _ _ 24 rfl W1.heap.size 21 i0 (.int .i32 0) 1 4 Tryd.underlying24 hi hz0 hz1 hz2 rfl (by decide) (.slice A2 i kc2) i (rcells (cyc xs i)) rfl (HOW.out.alloc _) ⟨wr.heap.size, 0, none⟩ 1 1 [.int .i32 (y : Int)] rfl rfl (cell_one_new _ _ _) (by intro u hu; simp at hu; subst hu; rfl) (by unfold maxLen; omega) (by omega) (by simp; omega) ?_)
      intro v' w2 hown2 hgr _ _
      obtain ⟨A3, kc3, rfl⟩ := sr_shape hown2
      have HROW2 : Hid (w2.ownsRow W1.heap.size 21 1 (.slice A3 (i + 1) kc3) (cyc xs (i + 1)).length (rcells (cyc xs (i + 1)))) := Lib.hid (by rw [cyc_length, HSU.out, rcells_append]; exact hown2)
      have HB10 := Lib.hid ((HBR.out.alloc (by omega) _).grown hgr (by simp; omega) (fun k hk => by have := (sr_is HOW.out hk).1; omega))
      clear hgr hown2
      go_wp2
      go_roundg (k - (i + 1))
      case measure => omega
      case rel => exact ⟨i + 1, by go_num, by omega, rfl, HROW2.out, HB10⟩
    · have hz : ¬ (i : Int) < (k : Int) := by omega
      obtain rfl : i = k := by omega
      have hcv2 := conv_text A2 kc2 _ wr (sr_at HOW.out)
      have HBF := Lib.hid (bthen HB1.out HBR.out)
      have HCV2 := Lib.hid hcv2
      clear hcv2
      generalize hZ : cyc xs i = Z at HOW HCV2
      have HZ := Lib.hid hZ
      clear hZ
      go_wp2_with fail
      rw [HCV2.out]
      go_wp2
      go_ret
      exact ⟨congrArg (fun z => Ending.returned (.string (textOf z))) HZ.out.symm, HBF.out⟩
end Go.Proofs.YtobcoplfniojkaaDoor
