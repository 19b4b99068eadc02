/- The walk of updateRange, the closure in NewTranslator. -/
import Derived.Test.YtdgaehkfdaacjaaDoorTrMem
import Derived.IntWalk
set_option linter.unusedVariables false
namespace Go.Proofs.YtdgaehkfdaacjaaDoor
open Go.RowKit Plain

def UpdPost (pto pts pte pst n : Nat) (x : NT) (w : World) (e : Ending) (w' : World) : Prop :=
  e = .returned (.tuple #[]) ∧ NtM pto pts pte pst n (upd x) w' ∧ Keep (fun k => k ≠ pto ∧ k ≠ pts ∧ k ≠ pte ∧ k ≠ pst) w w'
theorem ntm_set4 {pto pts pte pst n : Nat} {w : World} {vo vs ve vt : Value} (n1 : pto ≠ pts) (n2 : pto ≠ pte) (n3 : pto ≠ pst) (n4 : pts ≠ pte) (n5 : pts ≠ pst) (n6 : pte ≠ pst)
    (ho : One w pto 9 vo) (hs : One w pts 21 vs) (he : One w pte 21 ve) (ht : One w pst 21 vt) (t1 : ByteArray) (hn : t1.size ≤ n) (x : NT) (h1 : rnsL t1.data.toList = x.tp) :
    NtM pto pts pte pst n x ((((w.setCell ⟨pto, 0, none⟩ (.string t1)).setCell ⟨pts, 0, none⟩ (.int .i32 x.ts)).setCell ⟨pte, 0, none⟩ (.int .i32 x.te)).setCell ⟨pst, 0, none⟩ (.int .i32 x.tst)) ∧
    Keep (fun k => k ≠ pto ∧ k ≠ pts ∧ k ≠ pte ∧ k ≠ pst) w ((((w.setCell ⟨pto, 0, none⟩ (.string t1)).setCell ⟨pts, 0, none⟩ (.int .i32 x.ts)).setCell ⟨pte, 0, none⟩ (.int .i32 x.te)).setCell ⟨pst, 0, none⟩ (.int .i32 x.tst)) :=
  ⟨⟨n1, n2, n3, n4, n5, n6, ⟨t1, h1, hn, (((ho.set _).far n1 _).far n2 _).far n3 _⟩, (((hs.far n1.symm _).set _).far n4 _).far n5 _, (((he.far n2.symm _).far n4.symm _).set _).far n6 _, (((ht.far n3.symm _).far n5.symm _).far n6.symm _).set _⟩,
    ((((Keep.refl _ _).setCell (by simp) _).setCell (by simp) _).setCell (by simp) _).setCell (by simp) _⟩
set_option maxHeartbeats 4000000 in
set_option maxRecDepth 100000 in
theorem upd_any (pto pts pte pst n : Nat) (x : NT) (w : World) (hT : Tabs w) (hM : NtM pto pts pte pst n x w) (hO : NtOk x) (hn : n ≤ 140737488355328) :
    Calls Tryd.prog 39 #[.pointer (some ⟨pte, 0, none⟩), .pointer (some ⟨pst, 0, none⟩), .pointer (some ⟨pto, 0, none⟩), .pointer (some ⟨pts, 0, none⟩)] w (UpdPost pto pts pte pst n x w) := by
  have HM := Lib.hid hM
  have HO := Lib.hid hO
  obtain ⟨n1, n2, n3, n4, n5, n6, ⟨t, htx, htn, oto⟩, ots, ote, ost⟩ := hM
  have HTX := Lib.hid htx
  obtain ⟨r0, s0, s1, e0, e1, hst⟩ := hO
  have cto := cell_of_one oto
  have cts := cell_of_one ots
  have cte := cell_of_one ote
  have cst := cell_of_one ost
  have fto := free_of_one oto
  have fts := free_of_one ots
  have fte := free_of_one ote
  have fst := free_of_one ost
  have HTo := Lib.hid oto
  have HTs := Lib.hid ots
  have HTe := Lib.hid ote
  have HSt := Lib.hid ost
  clear oto ots ote ost htx r0
  by_cases h1 : x.te = -1
  · have hq : (x.te == -1) = true := by rw [beq_iff_eq]; exact h1
    have hu : Hid (upd x = x) := Lib.hid (by unfold upd; rw [if_pos h1])
    clear h1 hst
    go_enter Tryd.func39, Tryd.ntmps39
    go_wp2
    go_end0
    exact ⟨rfl, by rw [hu.out]; exact HM.out, Keep.refl _ _⟩
  have hq : (x.te == -1) = false := by rw [beq_eq_false_iff_ne]; exact h1
  by_cases h2 : x.tst = 0
  · have hq2 : (x.tst == 0) = true := by rw [beq_iff_eq]; exact h2
    have hu : Hid (upd x = { x with tp := (nrr x.tp x.te).1, ts := (nrr x.tp x.te).2.1, te := (nrr x.tp x.te).2.2.1, tst := (nrr x.tp x.te).2.2.2 }) := Lib.hid (by unfold upd; rw [if_neg h1, if_pos h2])
    have HN := Lib.hid (HTX.out ▸ nrr_any t x.te w hT (by omega) e0 e1)
    generalize nrr x.tp x.te = N at hu HN
    clear h1 h2 hst
    go_enter Tryd.func39, Tryd.ntmps39
    go_wp2_with (go_at_call 40; with_reducible refine HN.out.mono ?_)
    rintro e w1 ⟨t1, rfl, ht1, ht1n, hb⟩
    have HT1 := Lib.hid ht1
    have HB := Lib.hid hb
    have kto := HTo.out.keep (q := fun _ => True) (Keep.of_below hb) trivial
    have kts := HTs.out.keep (q := fun _ => True) (Keep.of_below hb) trivial
    have kte := HTe.out.keep (q := fun _ => True) (Keep.of_below hb) trivial
    have kst := HSt.out.keep (q := fun _ => True) (Keep.of_below hb) trivial
    have d1 := cell_of_one kto
    have d2 := cell_of_one kts
    have d3 := cell_of_one kte
    have d4 := cell_of_one kst
    have g1 := free_of_one kto
    have g2 := free_of_one kts
    have g3 := free_of_one kte
    have g4 := free_of_one kst
    have KTo := Lib.hid kto
    have KTs := Lib.hid kts
    have KTe := Lib.hid kte
    have KSt := Lib.hid kst
    clear cto cts cte cst fto fts fte fst kto kts kte kst ht1 hb
    have m1 := n1.symm
    have m2 := n2.symm
    have m3 := n3.symm
    have m4 := n4.symm
    have m5 := n5.symm
    have m6 := n6.symm
    dsimp only
    go_wp2
    go_end0
    obtain ⟨k1, k2⟩ := ntm_set4 n1 n2 n3 n4 n5 n6 KTo.out KTs.out KTe.out KSt.out t1 (Nat.le_trans ht1n htn) { x with tp := N.1, ts := N.2.1, te := N.2.2.1, tst := N.2.2.2 } HT1.out
    exact ⟨rfl, by rw [hu.out]; exact k1, (Keep.of_below HB.out).trans k2⟩
  have hq2 : (x.tst == 0) = false := by rw [beq_eq_false_iff_ne]; exact h2
  by_cases h3 : x.ts ≠ x.te
  · have hq3 : (x.ts != x.te) = true := by rw [bne_iff_ne]; exact h3
    have hu : Hid (upd x = { x with ts := x.ts + x.tst }) := Lib.hid (by unfold upd; rw [if_neg h1, if_neg h2, if_pos h3])
    have hw : IntKind.i32.wrap (x.ts + x.tst) = x.ts + x.tst := IntWalk.i32_in _ (by omega)
    have HW := Lib.hid hw
    have b0 : (-2147483648 : Int) ≤ x.ts + x.tst := by omega
    have b1 : x.ts + x.tst ≤ 2147483647 := by omega
    have m5 := n5.symm
    clear h1 h2 h3 hst hw
    go_enter Tryd.func39, Tryd.ntmps39
    go_wp2
    go_end0
    refine ⟨rfl, ?_, (Keep.refl _ _).setCell (by simp) _⟩
    rw [hu.out]
    exact ⟨n1, n2, n3, n4, n5, n6, ⟨t, HTX.out, htn, HTo.out.far n1 _⟩, HTs.out.set _, HTe.out.far n4.symm _, HSt.out.far n5.symm _⟩
  have hq3 : (x.ts != x.te) = false := by rw [bne_eq_false_iff_eq]; exact Classical.not_not.1 h3
  by_cases h4 : x.tp = []
  · have hu : Hid (upd x = { x with te := -1 }) := Lib.hid (by unfold upd; rw [if_neg h1, if_neg h2, if_neg h3, if_pos h4])
    have hz : t.size = 0 := rns_nil.1 (HTX.out.trans h4)
    have hl : t.data.toList = [] := List.eq_nil_of_length_eq_zero (by rw [← Lib.size_eq]; exact hz)
    have hl3 : t.toList.isEmpty = true := by rw [ByteArray.toList_eq, hl]; rfl
    clear h1 h2 h3 hst h4 hz hl
    go_enter Tryd.func39, Tryd.ntmps39
    go_wp2
    go_end0
    refine ⟨rfl, ?_, (Keep.refl _ _).setCell (by simp) _⟩
    rw [hu.out]
    exact ⟨n1, n2, n3, n4, n5, n6, ⟨t, HTX.out, htn, HTo.out.far n2 _⟩, HTs.out.far n4 _, HTe.out.set _, HSt.out.far n6.symm _⟩
  · have hu : Hid (upd x = { x with tp := (nrr x.tp (-1)).1, ts := (nrr x.tp (-1)).2.1, te := (nrr x.tp (-1)).2.2.1, tst := (nrr x.tp (-1)).2.2.2 }) := Lib.hid (by unfold upd; rw [if_neg h1, if_neg h2, if_neg h3, if_neg h4])
    have hz : t.size ≠ 0 := fun e => h4 (HTX.out ▸ rns_nil.2 e)
    have hl3 : t.toList.isEmpty = false := by
      rw [ByteArray.toList_eq]
      cases hl : t.data.toList with
      | nil => exact absurd (by rw [Lib.size_eq, hl]; rfl) hz
      | cons a b => rfl
    have HN := Lib.hid (HTX.out ▸ nrr_any t (-1) w hT (by omega) (by omega) (by omega))
    generalize nrr x.tp (-1) = N at hu HN
    clear h1 h2 h3 h4 hst hz
    go_enter Tryd.func39, Tryd.ntmps39
    go_wp2_with (go_at_call 40; with_reducible refine HN.out.mono ?_)
    rintro e w1 ⟨t1, rfl, ht1, ht1n, hb⟩
    have HT1 := Lib.hid ht1
    have HB := Lib.hid hb
    have kto := HTo.out.keep (q := fun _ => True) (Keep.of_below hb) trivial
    have kts := HTs.out.keep (q := fun _ => True) (Keep.of_below hb) trivial
    have kte := HTe.out.keep (q := fun _ => True) (Keep.of_below hb) trivial
    have kst := HSt.out.keep (q := fun _ => True) (Keep.of_below hb) trivial
    have d1 := cell_of_one kto
    have d2 := cell_of_one kts
    have d3 := cell_of_one kte
    have d4 := cell_of_one kst
    have g1 := free_of_one kto
    have g2 := free_of_one kts
    have g3 := free_of_one kte
    have g4 := free_of_one kst
    have KTo := Lib.hid kto
    have KTs := Lib.hid kts
    have KTe := Lib.hid kte
    have KSt := Lib.hid kst
    clear cto cts cte cst fto fts fte fst kto kts kte kst ht1 hb
    have m1 := n1.symm
    have m2 := n2.symm
    have m3 := n3.symm
    have m4 := n4.symm
    have m5 := n5.symm
    have m6 := n6.symm
    dsimp only
    go_wp2
    go_end0
    obtain ⟨k1, k2⟩ := ntm_set4 n1 n2 n3 n4 n5 n6 KTo.out KTs.out KTe.out KSt.out t1 (Nat.le_trans ht1n htn) { x with tp := N.1, ts := N.2.1, te := N.2.2.1, tst := N.2.2.2 } HT1.out
    exact ⟨rfl, by rw [hu.out]; exact k1, (Keep.of_below HB.out).trans k2⟩
end Go.Proofs.YtdgaehkfdaacjaaDoor
