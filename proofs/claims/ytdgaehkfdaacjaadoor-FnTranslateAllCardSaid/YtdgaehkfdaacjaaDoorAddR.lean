/- The walk of addRune. -/
import Derived.Test.YtdgaehkfdaacjaaDoorTrTab
import Derived.IntWalk
import Derived.OwnWalk
import Derived.WalkSpells
set_option linter.unusedVariables false
namespace Go.Proofs.YtdgaehkfdaacjaaDoor
open Go.RowKit Plain Go.Maps

theorem info32 : (Tryd.prog.info? 21).map (fun i => (i.zero, i.size, i.bytes)) = some (some (.int .i32 0), 1, 4) := by kernel_rfl
theorem law32 : Keyed Tryd.prog 21 := int_keyed Tryd.underlying21
theorem zero32 (w : World) : (zeroValue 21).run Tryd.prog w = .ok (.int .i32 0) w := by kernel_rfl
def AddPost (base b : Nat) (d : TD) (fl : Int × Bool × Bool × Bool) (w : World) (e : Ending) (w' : World) : Prop :=
  ∃ vs' vq vm vr, e = .returned vs' ∧ TrQ base b vs' d fl vq vm vr w' ∧ Keep (fun j => j < base ∧ j ≠ b) w w'
section
variable {base b : Nat} {vs : Value} {d : TD} {fl : Int × Bool × Bool × Bool} {vq vm vr : Value} {w : World}
/-- the facts at a translator's quick dictionary -/
theorem TrQ.factsQ {qb a : Nat} (h : TrQ base b vs d fl (.pointer (some ⟨qb, 0, none⟩)) vm vr w) (ha : a < 128) :
    w.cell? ⟨b, 0, none⟩ = some (.pointer (some ⟨qb, 0, none⟩)) ∧ (∃ u, w.cell? ⟨qb, a, none⟩ = some u) ∧ (∃ u, w.cell? ⟨qb, 128 + a, none⟩ = some u) ∧ (∀ i, w.frozen? ⟨qb, i, none⟩ = false) ∧ b ≠ qb ∧ qb ≠ b ∧ qb < w.heap.size ∧ (∀ g, vs.ownBlock = some g → g ≠ qb) := by
  have hlo := h.lo
  obtain ⟨qb', hq1, hq2, hq3⟩ : ∃ qb', Value.pointer (some ⟨qb, 0, none⟩) = .pointer (some ⟨qb', 0, none⟩) ∧ base ≤ qb' ∧ QuickIs qb' d.S w := by
    rcases h.q with ⟨h1, _⟩ | h1
    · cases h1
    · exact h1
  obtain rfl : qb = qb' := by injection hq1 with e; injection e with e; injection e
  obtain ⟨cs, k1, k2, k3⟩ := hq3
  refine ⟨by simp [World.cell?, h.blk], ⟨.int .i32 ((d.S a).getD 0), ?_⟩, ⟨.bool (d.S a).isSome, ?_⟩, fun i => by simp [World.frozen?, k1], by omega, by omega, lt_of_block k1, fun g hg => is_ne (row_is h.s hg).2 ⟨cs, k1⟩ (by decide)⟩
  · simp only [World.cell?, k1]
    exact (k3 a ha).1
  · simp only [World.cell?, k1]
    exact (k3 a ha).2
theorem TrQ.rowQ {qb a : Nat} (h : TrQ base b vs d fl (.pointer (some ⟨qb, 0, none⟩)) vm vr w) (hne : ∀ g, vs.ownBlock = some g → g ≠ qb) (i j : Nat) (u v : Value) :
    ((w.setCell ⟨qb, i, none⟩ u).setCell ⟨qb, j, none⟩ v).ownsRow base 21 1 vs d.sg.length (d.sg.map (Value.int .i32)) :=
  row_keep h.s fun g hg => (Below.heap_setCell _ _ _ _ (hne g hg)).trans (Below.heap_setCell _ _ _ _ (hne g hg))
end

set_option maxHeartbeats 2000000 in
set_option maxRecDepth 100000 in
theorem addRune_q1 (base b : Nat) (vs : Value) (d : TD) (fl : Int × Bool × Bool × Bool) (qb : Nat) (vm vr : Value) (w : World) (h : TrQ base b vs d fl (.pointer (some ⟨qb, 0, none⟩)) vm vr w) (a : Nat) (ha : a < 128) (c : Int) (hc0 : -2147483648 ≤ c) (hc1 : c ≤ 2147483647) (hlen : d.sg.length ≤ 10000000000) :
    Calls Tryd.prog 42 #[.pointer (some ⟨b, 0, none⟩), .int .i32 (a : Int), .int .i32 c, vs] w (AddPost base b (put d (a : Int) c) fl w) := by
  obtain ⟨i0, hi, hz0, hz1, hz2⟩ := info_parts info32
  have haz : (a : Int) ≤ 127 := by omega
  have haz0 : (0 : Int) ≤ (a : Int) := by omega
  have haz1 : (a : Int) < 128 := by omega
  have HW := Lib.hid h
  clear h
  obtain ⟨c0, ⟨u1, hu1⟩, ⟨u2, hu2⟩, hfr, n1, n2, hql, hvq⟩ := HW.out.factsQ ha
  have fa := hfr a
  have fb := hfr (128 + a)
  have HR := Lib.hid (fun u v => HW.out.rowQ (a := a) hvq a (128 + a) u v)
  have HHI := Lib.hid HW.out.hi
  clear hfr hvq
  go_enter Tryd.func42, Tryd.ntmps42
  go_upto_region 4 with fail
  go_upto_region 9 with fail
  obtain ⟨W1, hW1⟩ : ∃ W1, (w.setCell ⟨qb, a, none⟩ (.int .i32 c)).setCell ⟨qb, 128 + a, none⟩ (.bool true) = W1 := ⟨_, rfl⟩
  have hrow := HR.out (.int .i32 c) (.bool true)
  have hbase : base ≤ (W1.alloc (.cells #[.int .i32 (a : Int)] 21)).heap.size := by have := HHI.out; rw [← hW1]; simp [World.setCell]; omega
  rw [hW1] at hrow
  rw [hW1]
  have HW1 := Lib.hid hW1
  clear hW1 hu1 hu2 c0 fa fb
  go_wp2_with (at_builtin; refine wpList_append_own_at _ rfl _ _ 33 rfl base 21 i0 (.int .i32 0) 1 4 Tryd.underlying33 hi hz0 hz1 hz2 rfl (by decide) vs d.sg.length (d.sg.map (Value.int .i32)) rfl (hrow.alloc _) ⟨W1.heap.size, 0, none⟩ 1 1 [.int .i32 (a : Int)] rfl rfl (cell_one_new _ _ _) (ints_oneCell .i32 [(a : Int)]) (by unfold maxLen; omega) (by omega) hbase ?_)
  intro v' w' hown hgrow _ _
  go_wp2
  go_ret
  rw [← HW1.out] at hgrow
  obtain ⟨k1, k2⟩ := HW.out.putQ ha hown hgrow
  exact ⟨v', _, _, _, rfl, k1, k2⟩

set_option maxHeartbeats 2000000 in
set_option maxRecDepth 100000 in
theorem addRune_q0 (base b : Nat) (vs : Value) (d : TD) (fl : Int × Bool × Bool × Bool) (vm vr : Value) (w : World) (h : TrQ base b vs d fl (.pointer none) vm vr w) (a : Nat) (ha : a < 128) (c : Int) (hc0 : -2147483648 ≤ c) (hc1 : c ≤ 2147483647) (hlen : d.sg.length ≤ 10000000000) :
    Calls Tryd.prog 42 #[.pointer (some ⟨b, 0, none⟩), .int .i32 (a : Int), .int .i32 c, vs] w (AddPost base b (put d (a : Int) c) fl w) := by
  obtain ⟨i0, hi, hz0, hz1, hz2⟩ := info_parts info32
  have haz : (a : Int) ≤ 127 := by omega
  have haz0 : (0 : Int) ≤ (a : Int) := by omega
  have haz1 : (a : Int) < 128 := by omega
  obtain ⟨hW0, hK0⟩ := h.quick
  have c00 : w.cell? ⟨b, 0, none⟩ = some (.pointer none) := by simp [World.cell?, h.blk]
  have f00 : w.frozen? ⟨b, 0, none⟩ = false := by simp [World.frozen?, h.blk]
  have hlt : b < w.heap.size := lt_of_block h.blk
  have HK0 := Lib.hid hK0
  have HW0 := Lib.hid hW0
  clear h hK0 hW0
  go_enter Tryd.func42, Tryd.ntmps42
  go_upto_region 4 with fail
  obtain ⟨W, hW⟩ : ∃ W, (w.setCell ⟨b, 0, none⟩ (.pointer (some ⟨w.heap.size, 0, none⟩))).alloc (.cells Tryd.zeroCells87 87) = W := ⟨_, rfl⟩
  have HW := Lib.hid (hW ▸ HW0.out)
  have HK := Lib.hid (hW ▸ HK0.out)
  rw [hW]
  clear hW HW0 HK0
  obtain ⟨qb, hqb⟩ : ∃ qb, w.heap.size = qb := ⟨_, rfl⟩
  rw [hqb] at HW
  rw [hqb]
  clear hqb c00 f00
  obtain ⟨c0, ⟨u1, hu1⟩, ⟨u2, hu2⟩, hfr, n1, n2, hql, hvq⟩ := HW.out.factsQ ha
  have fa := hfr a
  have fb := hfr (128 + a)
  have HR := Lib.hid (fun u v => HW.out.rowQ (a := a) hvq a (128 + a) u v)
  have HHI := Lib.hid HW.out.hi
  clear hfr hvq
  go_upto_region 9 with fail
  obtain ⟨W1, hW1⟩ : ∃ W1, (W.setCell ⟨qb, a, none⟩ (.int .i32 c)).setCell ⟨qb, 128 + a, none⟩ (.bool true) = W1 := ⟨_, rfl⟩
  have hrow := HR.out (.int .i32 c) (.bool true)
  have hbase : base ≤ (W1.alloc (.cells #[.int .i32 (a : Int)] 21)).heap.size := by have := HHI.out; rw [← hW1]; simp [World.setCell]; omega
  rw [hW1] at hrow
  rw [hW1]
  have HW1 := Lib.hid hW1
  clear hW1 hu1 hu2 c0 fa fb
  go_wp2_with (at_builtin; refine wpList_append_own_at _ rfl _ _ 33 rfl base 21 i0 (.int .i32 0) 1 4 Tryd.underlying33 hi hz0 hz1 hz2 rfl (by decide) vs d.sg.length (d.sg.map (Value.int .i32)) rfl (hrow.alloc _) ⟨W1.heap.size, 0, none⟩ 1 1 [.int .i32 (a : Int)] rfl rfl (cell_one_new _ _ _) (ints_oneCell .i32 [(a : Int)]) (by unfold maxLen; omega) (by omega) hbase ?_)
  intro v' w' hown hgrow _ _
  go_wp2
  go_ret
  rw [← HW1.out] at hgrow
  obtain ⟨k1, k2⟩ := HW.out.putQ ha hown hgrow
  exact ⟨v', _, _, _, rfl, k1, (HK.out.mono (fun k _ hk => hk.2)).trans k2⟩

set_option maxHeartbeats 2000000 in
set_option maxRecDepth 100000 in
theorem addRune_m1 (base b : Nat) (vs : Value) (d : TD) (fl : Int × Bool × Bool × Bool) (mb : Nat) (vq vr : Value) (w : World) (h : TrQ base b vs d fl vq (.map (some mb)) vr w) (a : Int) (ha : 127 < a) (ha2 : a ≤ 1114111) (c : Int) (hc0 : -2147483648 ≤ c) (hc1 : c ≤ 2147483647) (hlen : d.sg.length ≤ 10000000000) :
    Calls Tryd.prog 42 #[.pointer (some ⟨b, 0, none⟩), .int .i32 a, .int .i32 c, vs] w (AddPost base b (put d a c) fl w) := by
  obtain ⟨i0, hi, hz0, hz1, hz2⟩ := info_parts info32
  have hmn := fun (w : World) (r : Option Nat) => run_eql_map_nil (P := Tryd.prog) w 55 21 21 r Tryd.underlying55
  have haz : ¬ a ≤ 127 := by omega
  have HW := Lib.hid h
  clear h
  obtain ⟨mb', hq1, hq2, D, hD, hD2⟩ : ∃ mb', Value.map (some mb) = .map (some mb') ∧ base ≤ mb' ∧ MapIs mb' d.sg.length d.S w := by
    rcases HW.out.m with ⟨h1, _⟩ | h1
    · cases h1
    · exact h1
  obtain rfl : mb = mb' := by injection hq1 with e; injection e
  have c1 : w.cell? ⟨b, 1, none⟩ = some (.map (some mb)) := by simp [World.cell?, HW.out.blk]
  have HD2 := Lib.hid hD2
  have HDO := Lib.hid hD
  have HS := Lib.hid HW.out.s
  have HHI := Lib.hid HW.out.hi
  have hnm : ∀ g, vs.ownBlock = some g → g ≠ mb := fun g hg => is_neM (row_is HS.out hg).2 (by obtain ⟨es, c, e, _⟩ := hD; exact ⟨es, c, e⟩)
  have HNM := Lib.hid hnm
  clear hq1 hq2 hD hD2 hnm
  go_enter Tryd.func42, Tryd.ntmps42
  go_wp2_with (at_mapUpdate; refine wpList_mapUpdate_own _ rfl _ _ _ 55 rfl 21 21 law32 Tryd.underlying55 _ mb d.sg.length D rfl HDO.out (by unfold maxLen; omega) _ _ _ rfl rfl (keyOf_int_mk Tryd.underlying21 (i32_wf (by omega) (by omega))) _ [] (plainElem_int Tryd.underlying21 (i32_wf hc0 hc1)) ?_)
  intro W1 hown1 hgrow1
  have hrow : W1.ownsRow base 21 1 vs d.sg.length (d.sg.map (Value.int .i32)) := row_keep HS.out fun g hg => hgrow1.block g (lt_of_block (row_is HS.out hg).2.choose_spec) (fun e => HNM.out g hg (Option.some.inj e))
  have hbase : base ≤ (W1.alloc (.cells #[.int .i32 a] 21)).heap.size := by have := HHI.out; have := hgrow1.size; simp; omega
  have HM1 := Lib.hid (MapIs.put (S := d.S) ha hown1 HDO.out.isMap HD2.out)
  have HG1 := Lib.hid hgrow1
  clear hown1 hgrow1 c1
  go_wp2_with (at_builtin; refine wpList_append_own_at _ rfl _ _ 33 rfl base 21 i0 (.int .i32 0) 1 4 Tryd.underlying33 hi hz0 hz1 hz2 rfl (by decide) vs d.sg.length (d.sg.map (Value.int .i32)) rfl (hrow.alloc _) ⟨W1.heap.size, 0, none⟩ 1 1 [.int .i32 a] rfl rfl (cell_one_new _ _ _) (ints_oneCell .i32 [a]) (by unfold maxLen; omega) (by omega) hbase ?_)
  intro v' w' hown hgrow _ _
  go_wp2
  go_ret
  obtain ⟨k1, k2⟩ := HW.out.putM ha ha2 HM1.out HG1.out hown hgrow
  exact ⟨v', _, _, _, rfl, k1, k2⟩

set_option maxHeartbeats 2000000 in
set_option maxRecDepth 100000 in
theorem addRune_m0 (base b : Nat) (vs : Value) (d : TD) (fl : Int × Bool × Bool × Bool) (vq vr : Value) (w : World) (h : TrQ base b vs d fl vq (.map none) vr w) (a : Int) (ha : 127 < a) (ha2 : a ≤ 1114111) (c : Int) (hc0 : -2147483648 ≤ c) (hc1 : c ≤ 2147483647) (hlen : d.sg.length ≤ 10000000000) :
    Calls Tryd.prog 42 #[.pointer (some ⟨b, 0, none⟩), .int .i32 a, .int .i32 c, vs] w (AddPost base b (put d a c) fl w) := by
  obtain ⟨i0, hi, hz0, hz1, hz2⟩ := info_parts info32
  have hmn := fun (w : World) (r : Option Nat) => run_eql_map_nil (P := Tryd.prog) w 55 21 21 r Tryd.underlying55
  have haz : ¬ a ≤ 127 := by omega
  obtain ⟨hW0, hK0⟩ := h.map
  have c01 : w.cell? ⟨b, 1, none⟩ = some (.map none) := by simp [World.cell?, h.blk]
  have f01 : w.frozen? ⟨b, 1, none⟩ = false := by simp [World.frozen?, h.blk]
  have hlt : b < w.heap.size := lt_of_block h.blk
  have HK0 := Lib.hid hK0
  have HW0 := Lib.hid hW0
  have hmm := @run_makeMap Tryd.prog
  clear h hK0 hW0
  go_enter Tryd.func42, Tryd.ntmps42
  go_upto_region 8 with fail
  obtain ⟨W, hW⟩ : ∃ W, (w.setCell ⟨b, 1, none⟩ (.map (some w.heap.size))).alloc (.map #[] 0) = W := ⟨_, rfl⟩
  have HW := Lib.hid (hW ▸ HW0.out)
  have HK := Lib.hid (hW ▸ HK0.out)
  rw [hW]
  clear hW HW0 HK0
  obtain ⟨mb, hmb⟩ : ∃ mb, w.heap.size = mb := ⟨_, rfl⟩
  rw [hmb] at HW
  rw [hmb]
  clear hmb c01 f01 hmm
  obtain ⟨mb', hq1, hq2, D, hD, hD2⟩ : ∃ mb', Value.map (some mb) = .map (some mb') ∧ base ≤ mb' ∧ MapIs mb' d.sg.length d.S W := by
    rcases HW.out.m with ⟨h1, _⟩ | h1
    · cases h1
    · exact h1
  obtain rfl : mb = mb' := by injection hq1 with e; injection e
  have c1 : W.cell? ⟨b, 1, none⟩ = some (.map (some mb)) := by simp [World.cell?, HW.out.blk]
  have HD2 := Lib.hid hD2
  have HDO := Lib.hid hD
  have HS := Lib.hid HW.out.s
  have HHI := Lib.hid HW.out.hi
  have hnm : ∀ g, vs.ownBlock = some g → g ≠ mb := fun g hg => is_neM (row_is HS.out hg).2 (by obtain ⟨es, c, e, _⟩ := hD; exact ⟨es, c, e⟩)
  have HNM := Lib.hid hnm
  clear hq1 hq2 hD hD2 hnm
  go_wp2_with (at_mapUpdate; refine wpList_mapUpdate_own _ rfl _ _ _ 55 rfl 21 21 law32 Tryd.underlying55 _ mb d.sg.length D rfl HDO.out (by unfold maxLen; omega) _ _ _ rfl rfl (keyOf_int_mk Tryd.underlying21 (i32_wf (by omega) (by omega))) _ [] (plainElem_int Tryd.underlying21 (i32_wf hc0 hc1)) ?_)
  intro W1 hown1 hgrow1
  have hrow : W1.ownsRow base 21 1 vs d.sg.length (d.sg.map (Value.int .i32)) := row_keep HS.out fun g hg => hgrow1.block g (lt_of_block (row_is HS.out hg).2.choose_spec) (fun e => HNM.out g hg (Option.some.inj e))
  have hbase : base ≤ (W1.alloc (.cells #[.int .i32 a] 21)).heap.size := by have := HHI.out; have := hgrow1.size; simp; omega
  have HM1 := Lib.hid (MapIs.put (S := d.S) ha hown1 HDO.out.isMap HD2.out)
  have HG1 := Lib.hid hgrow1
  clear hown1 hgrow1 c1
  go_wp2_with (at_builtin; refine wpList_append_own_at _ rfl _ _ 33 rfl base 21 i0 (.int .i32 0) 1 4 Tryd.underlying33 hi hz0 hz1 hz2 rfl (by decide) vs d.sg.length (d.sg.map (Value.int .i32)) rfl (hrow.alloc _) ⟨W1.heap.size, 0, none⟩ 1 1 [.int .i32 a] rfl rfl (cell_one_new _ _ _) (ints_oneCell .i32 [a]) (by unfold maxLen; omega) (by omega) hbase ?_)
  intro v' w' hown hgrow _ _
  go_wp2
  go_ret
  obtain ⟨k1, k2⟩ := HW.out.putM ha ha2 HM1.out HG1.out hown hgrow
  exact ⟨v', _, _, _, rfl, k1, (HK.out.mono (fun k _ hk => hk.2)).trans k2⟩
/-- a single character is put in -/
theorem addRune_any (base b : Nat) (vs : Value) (d : TD) (fl : Int × Bool × Bool × Bool) (vq vm vr : Value) (w : World) (h : TrQ base b vs d fl vq vm vr w) (a : Int) (ha0 : 0 ≤ a) (ha1 : a ≤ 1114111) (c : Int) (hc0 : -2147483648 ≤ c) (hc1 : c ≤ 2147483647) (hlen : d.sg.length ≤ 10000000000) :
    Calls Tryd.prog 42 #[.pointer (some ⟨b, 0, none⟩), .int .i32 a, .int .i32 c, vs] w (AddPost base b (put d a c) fl w) := by
  by_cases ha : a < 128
  · obtain ⟨n, rfl⟩ := Int.eq_ofNat_of_zero_le ha0
    rcases h.q with ⟨h1, _⟩ | ⟨qb, h1, _⟩
    · subst h1
      exact addRune_q0 base b vs d fl vm vr w h n (by omega) c hc0 hc1 hlen
    · subst h1
      exact addRune_q1 base b vs d fl qb vm vr w h n (by omega) c hc0 hc1 hlen
  · rcases h.m with ⟨h1, _⟩ | ⟨mb, h1, _⟩
    · subst h1
      exact addRune_m0 base b vs d fl vq vr w h a (by omega) ha1 c hc0 hc1 hlen
    · subst h1
      exact addRune_m1 base b vs d fl mb vq vr w h a (by omega) ha1 c hc0 hc1 hlen
end Go.Proofs.YtdgaehkfdaacjaaDoor
