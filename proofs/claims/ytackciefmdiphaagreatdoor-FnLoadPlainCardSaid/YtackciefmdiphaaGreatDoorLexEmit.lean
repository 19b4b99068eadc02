/- The lexer's emit and errorf: an item behind the others. -/
import Derived.Test.YtackciefmdiphaaGreatDoorLexMem
import Derived.BigRegion
set_option linter.unusedVariables false
namespace Go.Proofs.YtackciefmdiphaaGreatDoor
open Go.RowKit Plain

theorem infoItem : (Tryz.prog.info? 121).map (fun i => (i.zero, i.size, i.bytes)) = some (some (.agg #[.int .i64 0, .int .i64 0, .string ⟨#[]⟩]), 3, 32) := by kernel_rfl
set_option maxRecDepth 100000 in
/-- 'string(rs)' -/
theorem conv_own {b0 : Nat} {lv : Value} {l : List Nat} {w : World} (h : w.ownsRow b0 21 1 lv l.length (l.map rcell)) :
    (convert 113 9 lv).run Tryz.prog w = .ok (.string (textOf l)) w := by
  rcases h.2 with ⟨hv, h0⟩ | ⟨g, cap, cur, hv, _⟩
  · subst hv
    rw [run_convert_runes_nil w _ _ _ 0 0 Tryz.underlying113 Tryz.underlying21 Tryz.underlying9]
    rw [List.eq_nil_of_length_eq_zero h0]
    rfl
  · subst hv
    have hr := run_convert_runes (P := Tryz.prog) w 113 9 21 ⟨g, 0, none⟩ l.length cap (l.map fun (n : Nat) => (n : Int)) (by simp) Tryz.underlying113 Tryz.underlying21 Tryz.underlying9 (fun j hj => by
      have hjl : j < l.length := by simpa using hj
      rw [add_at, Nat.zero_add, h.cellAt j (by omega)]
      rw [List.getElem?_map, List.getElem?_eq_getElem hjl]
      simp [rcell, hjl, List.getD])
    rw [hr, List.take_of_length_le (by simp)]
    congr 2
    have := runesBytes_list l
    unfold textOf
    rw [← this]
theorem cell_three_new (w : World) (a b c : Value) (t : TypeId) : ∀ j u, ([a, b, c] : List Value)[j]? = some u → (w.alloc (.cells #[a, b, c] t)).cell? ((⟨w.heap.size, 0, none⟩ : Addr).add j) = some u := by
  intro j u hu
  rw [add_at, Nat.zero_add, World.cell?_alloc_new]
  simpa using hu
theorem row_empty {w : World} {base : Nat} {e : TypeId} {g n cap : Nat} {xs : List Value} (h : w.ownsRow base e 1 (.slice (some ⟨g, 0, none⟩) n cap) n xs) : w.ownsRow base e 1 (.slice (some ⟨g, 0, none⟩) 0 cap) 0 [] := by
  rcases h.2 with ⟨hv, _⟩ | ⟨g', cap', cur, hv, h1, h2, h3, h4, h5, h6⟩
  · cases hv
  · injection hv with hv1 hv2 hv3
    injection hv1 with hv1
    injection hv1 with hv1
    subst hv1
    subst hv3
    exact ⟨rfl, .inr ⟨g, cap, cur, rfl, h1, h2, Nat.zero_le _, h4, h5, by simp⟩⟩
set_option maxHeartbeats 4000000 in
set_option maxRecDepth 100000 in
theorem emit_any (B lb pos start width k : Nat) (s : ByteArray) (rs : List Nat) (its : List LI) (w : World) (h : LX B lb s pos start width rs its w) (hB : B ≤ w.heap.size) (hn : its.length ≤ 1000000) :
    Calls Tryz.prog 116 #[.pointer (some ⟨lb, 0, none⟩), .int .i64 (k : Int)] w (LPost B lb s pos pos width [] (its ++ [⟨k, start, textOf rs⟩]) w) := by
  unfold LPost
  have hlt := h.lt
  obtain ⟨i0, hi, hz0, hz1, hz2⟩ := info_parts infoItem
  obtain ⟨⟨st, lp, rv, iv, h1, h2, h3, ⟨gr, cr, h4⟩⟩, h5⟩ := h
  obtain ⟨c0, c2, c3, c4, c6, c7, f1, f2, f3, f4, f6, f7⟩ := lx_cells h1
  have hv1 : ∀ W : World, Below w.heap.size w W → (convert 113 9 rv).run Tryz.prog W = .ok (.string (textOf rs)) W := fun W hb => conv_own (row_keep h2 (fun g hg => hb.block g (row_lt h2 hg).2))
  obtain ⟨X, hX⟩ : ∃ X, textOf rs = X := ⟨_, rfl⟩
  rw [hX] at hv1
  have q1 := hv1 w (Below.refl _ _)
  have q2 := hv1 w.drew (Below.refl _ _).drew
  have q3 : ∀ o, (convert 113 9 rv).run Tryz.prog (w.alloc o) = .ok (.string X) (w.alloc o) := fun o => hv1 _ ((Below.refl _ w).alloc (Nat.le_refl _) _)
  have q4 : ∀ o, (convert 113 9 rv).run Tryz.prog (w.alloc o).drew = .ok (.string X) (w.alloc o).drew := fun o => hv1 _ ((Below.refl _ w).alloc (Nat.le_refl _) _).drew
  have HV := Lib.hid hv1
  have H1 := Lib.hid h1
  have H2 := Lib.hid h2
  have H3 := Lib.hid h3
  have H4 := Lib.hid h4
  clear h1 h3 hv1
  clear h2
  subst h4
  go_enter Tryz.func116, Tryz.ntmps116
  go_wp2
  go_region
  obtain ⟨W1, hW1⟩ : ∃ W1, (w.alloc (.cells #[.int .i64 (k : Int), .int .i64 (start : Int), .string X] 121)).drew = W1 := ⟨_, rfl⟩
  have hb1 : Below w.heap.size w W1 := hW1 ▸ ((Below.refl _ w).alloc (Nat.le_refl _) _).drew
  have hit : W1.heap[w.heap.size]? = some (.cells #[.int .i64 (k : Int), .int .i64 (start : Int), .string X] 121 (0, 0)) := hW1 ▸ heap_alloc_new w _
  have hsz : W1.heap.size = w.heap.size + 1 := hW1 ▸ by simp
  rw [hW1]
  obtain ⟨N, hN⟩ : ∃ N, w.heap.size = N := ⟨_, rfl⟩
  rw [hN] at hb1 hit hsz hlt hB
  rw [hN]
  have hL1 := (hb1.block lb hlt).trans H1.out
  have r1 := row_keep H2.out (fun g hg => hb1.block g (by have := (row_lt H2.out hg).2; omega))
  have r3 := row_keep H3.out (fun g hg => hb1.block g (by have := (row_lt H3.out hg).2; omega))
  have HB1 : Hid (Below B w W1) := Lib.hid (hb1.mono hB)
  have i0' : W1.cell? ⟨N, 0, none⟩ = some (.int .i64 (k : Int)) := by simp [World.cell?, hit]
  have i1' : W1.cell? ⟨N, 1, none⟩ = some (.int .i64 (start : Int)) := by simp [World.cell?, hit]
  have i2' : W1.cell? ⟨N, 2, none⟩ = some (.string X) := by simp [World.cell?, hit]
  clear hW1 hN q1 q2 q3 q4 HV H1 H2 H3 c0 c2 c3 c4 c6 c7 f1 f2 f3 f4 f6 f7 hb1 hit
  obtain ⟨c0, c2, c3, c4, c6, c7, f1, f2, f3, f4, f6, f7⟩ := lx_cells hL1
  have hne := row_ne r3 hL1 (by decide)
  have HL1 := Lib.hid hL1
  have R1 := Lib.hid r1
  have R3 := Lib.hid r3
  have HI := Lib.hid (And.intro hi (And.intro hz0 (And.intro hz1 hz2)))
  clear hL1 r1 r3 hi hz0 hz1 hz2
  have HC : Hid (∀ j u, (itemC ⟨k, start, X⟩)[j]? = some u → (W1.alloc (.cells #[.int .i64 (k : Int), .int .i64 (start : Int), .string X] 121)).cell? ((⟨N + 1, 0, none⟩ : Addr).add j) = some u) := Lib.hid (by have := cell_three_new W1 (.int .i64 (k : Int)) (.int .i64 (start : Int)) (.string X) 121; rw [hsz] at this; exact this)
  go_wp2
  go_region_law (refine step_append_lies _ (by rfl) _ _ 114 (by rfl) B 121 i0 (.agg #[.int .i64 0, .int .i64 0, .string ⟨#[]⟩]) 3 32 Tryz.underlying114 HI.out.1 HI.out.2.1 HI.out.2.2.1 HI.out.2.2.2 rfl (by decide) iv its.length (itemsC its) (by rfl) (row_keep R3.out (fun g hg => by have := (row_lt R3.out hg).2; first | exact Below.heap_alloc W1 _ g this | rfl)) ⟨N + 1, 0, none⟩ 1 1 (itemC ⟨k, start, X⟩) (by rfl) rfl (by exact HC.out) (by intro u hu; simp [itemC] at hu; rcases hu with rfl | rfl | rfl <;> rfl) (by decide) (by unfold maxLen; omega) (by omega) (by simp; omega) (N + 1 + 1) (by simp [hsz]) ?_; intro g2 cap w3 hown1 hgrow hat hlt2; obtain ⟨e0, e2, e3, e4, e6, e7, m1, m2, m3, m4, m6, m7⟩ := lx_cells ((hgrow.block lb (by simp; omega) (fun e => hne e.symm)).trans ((Below.heap_alloc W1 _ lb (by omega)).trans HL1.out)))
  all_goals
    have hw3 : w3.heap[lb]? = _ := (hgrow.block lb (by simp; omega) (fun e => hne e.symm)).trans ((Below.heap_alloc W1 _ lb (by omega)).trans HL1.out)
    have o2 := row_two (w := (W1.alloc (.cells #[.int .i64 (k : Int), .int .i64 (start : Int), .string X] 121)).drew) (row_keep R3.out (fun g hg => Below.heap_alloc W1 (.cells #[.int .i64 (k : Int), .int .i64 (start : Int), .string X] 121) g (row_lt R3.out hg).2)) (row_keep R1.out (fun g hg => Below.heap_alloc W1 (.cells #[.int .i64 (k : Int), .int .i64 (start : Int), .string X] 121) g (row_lt R1.out hg).2)) (by decide) hgrow
    have b3 : Below B w w3 := ((HB1.out.alloc (by omega) (.cells #[.int .i64 (k : Int), .int .i64 (start : Int), .string X] 121)).drew).grown hgrow (by simp; omega) (fun g hg => (row_lt R3.out hg).1)
    have hA := lx_set hw3 7 (.slice (some ⟨g2, 0, none⟩) (its.length + 1) cap)
    have oA := row_set (k := lb) (i := 7) (u := .slice (some ⟨g2, 0, none⟩) (its.length + 1) cap) hown1 hw3 (by decide)
    have oB := row_set (k := lb) (i := 7) (u := .slice (some ⟨g2, 0, none⟩) (its.length + 1) cap) o2 hw3 (by decide)
    have bA : Below B w (w3.setCell ⟨lb, 7, none⟩ (.slice (some ⟨g2, 0, none⟩) (its.length + 1) cap)) := b3.setCell (p := ⟨lb, 7, none⟩) h5 _
    clear e0 e2 e3 e4 e6 e7 m1 m2 m3 m4 m6 m7 hown1 hgrow hat hw3 o2 b3 c0 c2 c3 c4 c6 c7 f1 f2 f3 f4 f6 f7
    generalize w3.setCell ⟨lb, 7, none⟩ (.slice (some ⟨g2, 0, none⟩) (its.length + 1) cap) = wA at hA oA oB bA ⊢
    have hA' : wA.heap[lb]? = some (.cells #[.string s, st, .int .i64 (pos : Int), .int .i64 (start : Int), .int .i64 (width : Int), .int .i64 lp, .slice (some ⟨gr, 0, none⟩) rs.length cr, .slice (some ⟨g2, 0, none⟩) (its.length + 1) cap] 116 (0, 0)) := hA
    obtain ⟨c0, c2, c3, c4, c6, c7, f1, f2, f3, f4, f6, f7⟩ := lx_cells hA'
    have HA := Lib.hid hA'
    have OA := Lib.hid oA
    have OB := Lib.hid oB
    have BA := Lib.hid bA
    clear hA hA' oA oB bA
    go_wp2
    go_end0
    have hs1 := lx_set HA.out 3 (.int .i64 (pos : Int))
    have p1 := row_set (k := lb) (i := 3) (u := .int .i64 (pos : Int)) OA.out HA.out (by decide)
    have p2 := row_set (k := lb) (i := 3) (u := .int .i64 (pos : Int)) OB.out HA.out (by decide)
    refine ⟨rfl, ⟨⟨st, lp, _, _, (lx_set hs1 6 (.slice (some ⟨gr, 0, none⟩) 0 cr)).trans rfl, row_empty (row_set p2 hs1 (by decide)), ?_, ⟨gr, cr, rfl⟩⟩, h5⟩, (BA.out.setCell (p := ⟨lb, 3, none⟩) h5 _).setCell (p := ⟨lb, 6, none⟩) h5 _⟩
    have p3 := row_set (k := lb) (i := 6) (u := .slice (some ⟨gr, 0, none⟩) 0 cr) p1 hs1 (by decide)
    rw [itemsC_snoc, hX]
    simpa using p3
end Go.Proofs.YtackciefmdiphaaGreatDoor
