/- The walk of impl.given, at any row of properties. -/
import Derived.Test.YtgmhigjhooihdaaGreatDoorPG
import Derived.Test.YtgmhigjhooihdaaGreatDoorPropA
import Derived.Test.YtgmhigjhooihdaaGreatDoorZzIt
import Derived.Deep.RegionHeld3
set_option linter.unusedVariables false
namespace Go.Proofs.YtgmhigjhooihdaaGreatDoor
open Go.RowKit Plain Go.Maps

theorem PG.mono {B pb N N' : Nat} {p : PSt} {sep : ByteArray} {w : World} (h : PG B pb N p sep w) (hN : N ≤ N') : PG B pb N' p sep w := by
  obtain ⟨mb, mc, DC, lv, h, h1, h2, h3⟩ := h
  exact ⟨mb, mc, DC, lv, h, by omega, by omega, by omega⟩
set_option maxRecDepth 100000 in
/-- comments that a caller gives are copied onto an empty slice -/
theorem app_comA {y : World} {base S : Nat} {ad : Addr} {c : Nat} {com : List ByteArray} (ty : TypeId) (hS : y.heap[S]? = some (.cells #[] 9 (0, 0))) (hb : base ≤ S) (hc : RowA (some ad) com y) (hL : com.length ≤ 10000000) :
    ∃ v' y', (Builtin.append_ #[32, 32] ty #[.slice (some ⟨S, 0, none⟩) 0 0, .slice (some ad) com.length c]).run Tryz.prog y = .ok v' y' ∧ ∃ g c', v' = .slice (some ⟨g, 0, none⟩) com.length c' ∧ (g = S ∨ g = y.heap.size) ∧ y'.ownsRow base 9 1 v' com.length (com.map Value.string) ∧ y.grownBy y' (some S) := by
  obtain ⟨i0, hi, hz0, hz1, hz2⟩ := info_parts infoStr
  have hlt := lt_of_block hS
  have hown : y.ownsRow base 9 1 (.slice (some ⟨S, 0, none⟩) 0 0) 0 [] := ⟨rfl, .inr ⟨S, 0, #[], rfl, hb, hS, Nat.le_refl _, by unfold maxLen; omega, rfl, rfl⟩⟩
  obtain ⟨v', y', hr, h2, h3, h4, h5⟩ := run_append_own_at (P := Tryz.prog) y base 32 ty 9 i0 (.string ⟨#[]⟩) 1 16 Tryz.underlying32 hi hz0 hz1 hz2 rfl (by decide) _ 0 [] hown ad com.length c (com.map Value.string) (by simp) (fun j u hu => by
    rw [List.getElem?_map] at hu
    cases hx : com[j]? with
    | none => rw [hx] at hu; cases hu
    | some x =>
      rw [hx] at hu
      injection hu with hu
      subst hu
      obtain ⟨ad', e, hcell⟩ := hc j x hx
      injection e with e
      subst e
      exact hcell) (by intro u hu; obtain ⟨x, _, rfl⟩ := List.mem_map.1 hu; rfl) (by unfold maxLen; omega) (by omega) (by omega)
  have h2' : y'.ownsRow base 9 1 v' com.length (com.map Value.string) := by simpa using h2
  rcases h2'.2 with ⟨h6, _⟩ | ⟨g', c', cur', h6, _⟩
  · have := (h4.1 h6).1
    cases this
  · refine ⟨v', y', hr, g', c', h6, ?_, h2', h3⟩
    rw [h6] at h5
    rcases h5 with h5 | h5
    · left; exact Option.some.inj h5
    · right; exact Option.some.inj h5
def GivenPost (l : List PropD) (w : World) (e : Ending) (w' : World) : Prop := ∃ pb, e = .returned (.pointer (some ⟨pb, 0, none⟩)) ∧ PG w.heap.size pb (2 * l.length) (l.foldl addP pst0) ⟨#[]⟩ w' ∧ Below w.heap.size w w'
theorem addP_split (p : PSt) (d : PropD) : addP p d = (if d.com = [] then putV (addK p d.key) d.key d.raw else { putV (addK p d.key) d.key d.raw with cf := updC (putV (addK p d.key) d.key d.raw).cf d.key d.com }) := by
  unfold addP addC putV
  split <;> rfl
theorem four_cellsA {w : World} {k : Nat} {a b c d : Value} {t : TypeId} (h : w.heap[k]? = some (.cells #[a, b, c, d] t (0, 0))) :
    w.cell? ⟨k, 0, none⟩ = some a ∧ w.cell? ⟨k, 1, none⟩ = some b ∧ w.cell? ⟨k, 2, none⟩ = some c ∧ w.cell? ⟨k, 3, none⟩ = some d := by
  simp [World.cell?, h]
theorem fold_take (l : List PropD) (i : Nat) (d : PropD) (h : l[i]? = some d) : (l.take (i + 1)).foldl addP pst0 = addP ((l.take i).foldl addP pst0) d := by
  rw [List.take_add_one, h]
  simp
set_option maxHeartbeats 8000000 in
set_option maxRecDepth 100000 in
theorem givenA_any (A : Option Addr) (n c : Nat) (l : List PropD) (w : World) (hr : PrA A l w) (hn : l.length = n) (hln : n ≤ 100000) (hok : ∀ d ∈ l, ¬ d.key.size = 0 ∧ d.key.size ≤ 100000 ∧ d.raw.size ≤ 100000 ∧ d.com.length ≤ 100000) :
    Calls Tryz.prog 45 #[.slice A n c] w (GivenPost l w) := by
  unfold GivenPost
  have HR := Lib.hid hr
  have HN := Lib.hid hn
  have HOK := Lib.hid hok
  have HNW := Lib.hid (newG_any w)
  rw [hn]
  clear hr hn hok
  go_enter Tryz.func45, Tryz.ntmps45
  go_wp2_with (go_at_call 28; with_reducible refine HNW.out.mono ?_)
  rintro e w1 ⟨pb, mb, mc, lv, rfl, hq, hb1⟩
  dsimp only
  obtain ⟨c2, c3, c5, c6, f2, f5, f6⟩ := seven_cells hq.blk
  obtain ⟨W2, hW2⟩ : ∃ W2, w1.setCell ⟨pb, 2, none⟩ (.bool true) = W2 := ⟨_, rfl⟩
  have HQ2 : Hid (PG w.heap.size pb 0 pst0 ⟨#[]⟩ W2) := Lib.hid (hW2 ▸ ⟨mb, mc, _, lv, hq.setDis, Nat.le_refl _, Nat.le_refl _, Nat.le_refl _⟩)
  have HB2 : Hid (Below w.heap.size w W2) := Lib.hid (hW2 ▸ hb1.setCell hq.lo.1 _)
  clear hq hb1
  go_wp2
  (try rw [hW2])
  clear hW2 c2 c3 c5 c6 f2 f5 f6
  go_loopg [12] n (fun gh iv wr => ∃ i : Nat, iv = .int .i64 (i : Int) ∧ i ≤ n ∧ gh = n - i ∧ Hid (PG w.heap.size pb (2 * i) ((l.take i).foldl addP pst0) ⟨#[]⟩ wr) ∧ Hid (Below w.heap.size w wr))
  case atStart => exact ⟨0, rfl, Nat.zero_le _, rfl, HQ2, HB2⟩
  case round =>
    obtain ⟨i, rfl, hin, rfl, HP, HB⟩ := hrel
    by_cases hlt : i < n
    · have hiz : (i : Int) < (n : Int) := by omega
      obtain ⟨d, hd⟩ : ∃ x, l[i]? = some x := ⟨_, List.getElem?_eq_getElem (by have := HN.out; omega)⟩
      obtain ⟨ad, rfl, hpa⟩ := HR.out i d hd
      obtain ⟨q, hq, j0, j1, j2, B, bc, j3, k4, k5, k6⟩ := hpa.cells
      have k0 := (HB.out.cell (cell_lt j0)).trans j0
      have k1 := (HB.out.cell (cell_lt j1)).trans j1
      have k2 := (HB.out.cell (cell_lt j2)).trans j2
      have k3 := (HB.out.cell (cell_lt j3)).trans j3
      clear j0 j1 j2 j3
      obtain ⟨o1, o2, o3, o4⟩ := HOK.out d (List.mem_of_getElem? hd)
      have HD := Lib.hid hd
      clear hd hpa
      obtain ⟨CN, hCN⟩ : ∃ m, d.com.length = m := ⟨_, rfl⟩
      rw [hCN] at k3 k5 k6 o4
      have HCN := Lib.hid hCN
      obtain ⟨KK, hKK⟩ : ∃ x, d.key = x := ⟨_, rfl⟩
      obtain ⟨RR, hRR⟩ : ∃ x, d.raw = x := ⟨_, rfl⟩
      rw [hKK] at k0 o1 o2
      rw [hRR] at k1 o3
      have HKK := Lib.hid hKK
      have HRR := Lib.hid hRR
      have HROW := Lib.hid k4
      have hb3 : Below wr.heap.size wr (wr.alloc (.cells #[.string KK, .string RR, .string d.val, .slice B CN bc] 34)) := (Below.refl _ wr).alloc (Nat.le_refl _) _
      have HX3 := Lib.hid (heap_alloc_new wr (.cells #[.string KK, .string RR, .string d.val, .slice B CN bc] 34))
      have HB3 := Lib.hid (bthen HB.out hb3)
      have HST := Lib.hid (setG_any w.heap.size pb (2 * i) ((l.take i).foldl addP pst0) ⟨#[]⟩ KK RR _ (HP.out.below hb3) (by omega) o1 (by omega) (by omega))
      have HBB3 := Lib.hid hb3
      clear hCN hKK hRR k4 hb3
      go_wp2_with (go_at_call 51; with_reducible refine HST.out.mono ?_)
      rintro e W4 ⟨⟨pv, bb, rfl⟩, hpg, hb4, hkt⟩
      dsimp only
      have hx4 : W4.heap[wr.heap.size]? = some (.cells #[.string KK, .string RR, .string d.val, .slice B CN bc] 34 (0, 0)) := (hkt _ _ _ HX3.out (by decide) (by decide)).trans HX3.out
      obtain ⟨x0, x1, x2, x3⟩ := four_cellsA hx4
      have HX4 := Lib.hid hx4
      have HPG := Lib.hid hpg
      have HB4 := Lib.hid (HB3.out.trans hb4)
      have HAP := Lib.hid (addP_split ((l.take i).foldl addP pst0) d)
      have HFT := Lib.hid (fold_take l i d HD.out)
      clear hx4 hpg hb4 hkt k0 k1 k2 k3
      by_cases hc0 : CN = 0
      · have hcz : ¬ (0 : Int) < (CN : Int) := by omega
        have hde : d.com = [] := List.eq_nil_of_length_eq_zero (by rw [HCN.out]; exact hc0)
        have HR5 : Hid (PG w.heap.size pb (2 * (i + 1)) ((l.take (i + 1)).foldl addP pst0) ⟨#[]⟩ W4) := Lib.hid (by
          rw [HFT.out, HAP.out, if_pos hde, HKK.out, HRR.out]
          exact HPG.out.mono (by omega))
        clear hde hc0
        go_wp2
        go_roundg (n - (i + 1))
        case measure => omega
        case rel => exact ⟨i + 1, by go_num, by omega, rfl, HR5, HB4⟩
      · have hcz : (0 : Int) < (CN : Int) := by omega
        obtain ⟨y, hy⟩ : ∃ y, d.com[0]? = some y := ⟨_, List.getElem?_eq_getElem (by rw [HCN.out]; omega)⟩
        obtain ⟨ab, rfl, _⟩ := HROW.out 0 y hy
        have hdn : ¬ d.com = [] := fun e => by rw [e] at hy; cases hy
        obtain ⟨mb', mc', DC, lv', hq, n1, n2, n3⟩ := HPG.out
        have HQ := Lib.hid hq
        have HDN := Lib.hid hdn
        have hBW : w.heap.size ≤ W4.heap.size := HB4.out.size
        have HRW4 : Hid (∀ y, Below W4.heap.size W4 y → RowA (some ab) d.com y) := Lib.hid (fun y hy => HROW.out.below (HB4.out.trans (hy.mono hBW)))
        have HD3 : Hid (Below W4.heap.size W4 W4.drew) := Lib.hid (Below.drew (Below.refl _ _))
        have HDA : Hid (∀ o, Below W4.heap.size W4 (W4.alloc o).drew) := Lib.hid (fun o => Below.drew ((Below.refl _ _).alloc (Nat.le_refl _) o))
        have HNW : Hid (((W4.alloc (.cells #[] 9)).drew).heap[W4.heap.size]? = some (.cells #[] 9 (0, 0))) := Lib.hid (heap_alloc_new W4 (.cells #[] 9))
        have HLD : Hid (∀ y, Below W4.heap.size W4 y → y.cell? ⟨wr.heap.size, 0, none⟩ = some (.string KK) ∧ y.cell? ⟨wr.heap.size, 3, none⟩ = some (.slice (some ab) CN bc)) := Lib.hid (fun y hy => by
          obtain ⟨z0, _, _, z3⟩ := four_cellsA HX4.out
          exact ⟨(hy.cell (cell_lt z0)).trans z0, (hy.cell (cell_lt z3)).trans z3⟩)
        clear hc0 hy hdn hq x1 x2
        obtain ⟨P1, hP1⟩ : ∃ P, putV (addK ((l.take i).foldl addP pst0) KK) KK RR = P := ⟨_, rfl⟩
        rw [hP1] at HQ n1 n2
        have hlt4 : ∀ g, lv'.ownBlock = some g → g < W4.heap.size := fun g hg => (row_lt HQ.out.row hg).2
        have HLT4 := Lib.hid hlt4
        have HP1 := Lib.hid hP1
        obtain ⟨CM, hCM⟩ : ∃ c, d.com = c := ⟨_, rfl⟩
        have HCM := Lib.hid hCM
        rw [hCM] at HRW4
        have HCN2 : Hid (CM.length = CN) := Lib.hid (by rw [← hCM]; exact HCN.out)
        have HSC : Hid (∀ y1 g1 c1, Below W4.heap.size W4 y1 → W4.heap.size ≤ g1 → y1.ownsRow W4.heap.size 9 1 (.slice (some ⟨g1, 0, none⟩) CN c1) CN (CM.map Value.string) → Calls Tryz.prog 71 #[.pointer (some ⟨pb, 0, none⟩), .string KK, .slice (some ⟨g1, 0, none⟩) CN c1] y1 (SetC w.heap.size pb (2 * i + 1) P1 ⟨#[]⟩ KK CM y1)) := Lib.hid (fun y1 g1 c1 hy hg hrw => by
          have hcn := HCN2.out
          subst hcn
          refine setC_any w.heap.size pb mb' mc' (2 * i + 1) P1 DC lv' ⟨#[]⟩ KK CM g1 c1 y1 (HQ.out.below hy) n1 n2 n3 (by omega) (by omega) ?_ (row_base hrw hBW) (fun e => by have := HLT4.out g1 e; omega)
          exact HQ.out.cr.keep (fun g cs hg' _ _ => hy.block g (lt_of_block hg')) (.inl rfl) (.inr (fun g h9 => by have h10 : g1 = g := Option.some.inj h9; omega)))
        clear hP1 hlt4 hCM
        go_wp2
        go_region_held3 (fun y => y.cell? ⟨wr.heap.size, 0, none⟩ = some (.string KK) ∧ y.cell? ⟨wr.heap.size, 3, none⟩ = some (.slice (some ab) CN bc))
          (first | exact HLD2.out | exact HLD.out _ HD3.out | exact HLD.out _ (HDA.out _) | exact HLD.out _ HY1.out)
          (first
            | (refine step_app (by rfl) _ _ 32 (by rfl) _ _ (by rfl) (by rfl) _ (by rw [← HCN2.out]; exact app_comA (base := W4.heap.size) (S := W4.heap.size) _ HNW.out (Nat.le_refl _) (HRW4.out _ (HDA.out _)) (by rw [HCN2.out]; omega)) ?_; rintro v1 y1 ⟨g1, c1, rfl, hg1, hF1⟩; rw [HCN2.out] at hF1 ⊢; have HF1 := Lib.hid hF1.1; have HG1 : Hid (W4.heap.size ≤ g1) := Lib.hid (by rcases hg1 with h | h; omega; simp at h; omega); have HY1 : Hid (Below W4.heap.size W4 y1) := Lib.hid ((HDA.out _).grown hF1.2 (by simp) (fun g hg => by injection hg with hg; omega)); clear hF1 hg1)
            | (go_at_call 71; (with_reducible refine (HSC.out _ _ _ HY1.out HG1.out HF1.out).mono ?_); rintro e y2 ⟨rfl, hpg2, hb2, hkt2⟩; have HLD2 : Hid (y2.cell? ⟨wr.heap.size, 0, none⟩ = some (.string KK) ∧ y2.cell? ⟨wr.heap.size, 3, none⟩ = some (.slice (some ab) CN bc)) := Lib.hid (by have hy1 := (HY1.out.block _ (lt_of_block HX4.out)).trans HX4.out; obtain ⟨z0, _, _, z3⟩ := four_cellsA ((hkt2 _ _ _ hy1 (by decide) (by decide)).trans hy1); exact ⟨z0, z3⟩); have HPG2 := Lib.hid hpg2; have HB2 : Hid (Below w.heap.size w y2) := Lib.hid ((HB4.out.trans (HY1.out.mono hBW)).trans hb2); clear hpg2 hb2 hkt2; dsimp only))
        have HR6 : Hid (PG w.heap.size pb (2 * (i + 1)) ((l.take (i + 1)).foldl addP pst0) ⟨#[]⟩ y2) := Lib.hid (by
          rw [HFT.out, HAP.out, if_neg HDN.out, HKK.out, HRR.out, HP1.out, HCM.out]
          exact HPG2.out)
        go_wp2
        go_roundg (n - (i + 1))
        case measure => omega
        case rel => exact ⟨i + 1, by go_num, by omega, rfl, HR6, HB2⟩
    · have hiz : ¬ (i : Int) < (n : Int) := by omega
      obtain rfl : i = n := by omega
      go_wp2
      go_ret
      refine ⟨pb, rfl, ?_, HB.out⟩
      have := HP.out
      rw [List.take_of_length_le (Nat.le_of_eq HN.out)] at this
      exact this
end Go.Proofs.YtgmhigjhooihdaaGreatDoor
