/- The loader without expansion, at the usual encoding (0). -/
import Derived.Test.YtackciefmdiphaaGreatDoorLoadB
set_option linter.unusedVariables false
namespace Go.Proofs.YtackciefmdiphaaGreatDoor
open Go.RowKit Plain Go.Maps

set_option maxHeartbeats 2000000 in
set_option maxRecDepth 100000 in
/-- loading without expansion -/
theorem loadBytes_plain0 (s : ByteArray) (lb b c : Nat) (w : World) (hs : s.size ≤ 100000) (hsc : s.size ≤ c) (hT : Tabs w) (c1 : w.cell? ⟨lb, 1, none⟩ = some (.bool true)) (hc : ∀ i, i < s.size → w.cell? ⟨b, i, none⟩ = some (.int .u8 ((numsB s).getD i 0))) (o : Option PSt) (ho : parL (lexL (unbom s)) [] pst0 = o) :
    Calls Tryz.prog 53 #[.pointer (some ⟨lb, 0, none⟩), .slice (some ⟨b, 0, none⟩) s.size c, .int .u64 0] w (LdPost o w) := by
  have hll := Lib.lt_of_cell c1
  obtain ⟨o', htr, ho'⟩ := trim_bom s b c
  obtain ⟨W, hW⟩ : ∃ W, w.alloc (.cells #[.int .u8 239, .int .u8 187, .int .u8 191] 5) = W := ⟨_, rfl⟩
  have hbW : Below w.heap.size w W := hW ▸ (Below.refl _ w).alloc (Nat.le_refl _) _
  have HTR := Lib.hid (trim_any (some ⟨b, 0, none⟩) (some ⟨w.heap.size, 0, none⟩) s.size c 3 3 (numsB s) [239, 187, 191] W (numsB_len s) rfl hsc (fun h0 => ⟨b, 0, rfl, fun i hi => by
    rw [Nat.zero_add]
    have h1 := hc i hi
    exact (hbW.cell (Lib.lt_of_cell h1)).trans h1⟩) (fun _ => ⟨w.heap.size, 0, rfl, fun i hi => by
    have h9 : W.heap[w.heap.size]? = _ := hW ▸ heap_alloc_new w _
    simp only [World.cell?, h9]
    match i, hi with
    | 0, _ => rfl
    | 1, _ => rfl
    | 2, _ => rfl⟩))
  rw [htr] at HTR
  have HCV := Lib.hid (convert_any b o' (s.size - bomK s) (c - bomK s) ((numsB s).drop (bomK s)) 0 W (by rw [List.length_drop, numsB_len]) (.inl rfl) (fun i hi => by
    have h1 := hc (bomK s + i) (by omega)
    rw [ho' (by omega) hsc]
    rw [(hbW.cell (Lib.lt_of_cell h1)).trans h1]
    simp [List.getD]))
  rw [strOfNums_drop] at HCV
  have HPA := Lib.hid (parse_any (unbom s) W (Nat.le_trans (unbom_size s) hs) (hT.below hbW) o ho)
  have d1 : ∀ y, Below w.heap.size w y → y.cell? ⟨lb, 1, none⟩ = some (.bool true) := fun y hy => (hy.cell hll).trans c1
  have HD1 := Lib.hid d1
  have HBW := Lib.hid hbW
  have hWs : W.heap.size = w.heap.size + 1 := by rw [← hW]; simp
  have HWW := Lib.hid hW
  obtain ⟨n1, hn1⟩ : ∃ n1, s.size - bomK s = n1 := ⟨_, rfl⟩
  obtain ⟨k1, hk1⟩ : ∃ n1, c - bomK s = n1 := ⟨_, rfl⟩
  obtain ⟨n0, hn0⟩ : ∃ n1, s.size = n1 := ⟨_, rfl⟩
  rw [hn1, hk1] at HTR HCV
  rw [hn0] at HTR ⊢
  change Hid (Calls _ _ _ _ fun e w' => e = .returned (.string (unbom s)) ∧ _) at HCV
  obtain ⟨U, hU⟩ : ∃ U, unbom s = U := ⟨_, rfl⟩
  rw [hU] at HCV HPA
  clear hc htr ho' d1 hbW hW hn1 hk1 hn0 hU hT c1
  cases o with
  | none =>
    go_enter Tryz.func53, Tryz.ntmps53
    go_wp2_with (first
      | (go_at_call 76; rw [HWW.out]; (with_reducible refine HTR.out.mono ?_); rintro e w1 ⟨rfl, rfl⟩; dsimp only)
      | (go_at_call 78; (with_reducible refine HCV.out.mono ?_); rintro e w1 ⟨rfl, rfl⟩; dsimp only)
      | (go_at_call 77; (with_reducible refine HPA.out.mono ?_); rintro e w2 ⟨P, N, rfl, hb2⟩; have HB2 := Lib.hid hb2; clear hb2; dsimp only))
    go_ret2
    exact ⟨N, rfl, bthen HBW.out HB2.out⟩
  | some p =>
    go_enter Tryz.func53, Tryz.ntmps53
    go_wp2_with (first
      | (go_at_call 76; rw [HWW.out]; (with_reducible refine HTR.out.mono ?_); rintro e w1 ⟨rfl, rfl⟩; dsimp only)
      | (go_at_call 78; (with_reducible refine HCV.out.mono ?_); rintro e w1 ⟨rfl, rfl⟩; dsimp only)
      | (go_at_call 77; (with_reducible refine HPA.out.mono ?_); rintro e w2 ⟨pb, mb, mc, n, nc, DC, lv, rfl, hpq, hcr, hb2⟩; have HB2 := Lib.hid hb2; have HPQ := Lib.hid hpq; have HCR := Lib.hid hcr; have e1 := HD1.out w2 (bthen HBW.out hb2); obtain ⟨_, _, _, _, f2, _⟩ := seven_cells hpq.blk; clear hb2 hpq hcr; dsimp only))
    go_ret2
    have hsz := HBW.out.size
    exact ⟨pb, mb, mc, n, nc, DC, lv, rfl, (LP.of true HPQ.out HCR.out).base hsz, (bthen HBW.out HB2.out).setCell (p := ⟨pb, 2, none⟩) (Nat.le_trans hsz HPQ.out.lo.1) _⟩
set_option maxRecDepth 100000 in
theorem loadBytesU_plain0 (s : ByteArray) (lb b c : Nat) (w : World) (hs : s.size ≤ 100000) (hsc : s.size ≤ c) (hT : Tabs w) (c0 : w.cell? ⟨lb, 0, none⟩ = some (.int .u64 0)) (c1 : w.cell? ⟨lb, 1, none⟩ = some (.bool true)) (hc : ∀ i, i < s.size → w.cell? ⟨b, i, none⟩ = some (.int .u8 ((numsB s).getD i 0))) (o : Option PSt) (ho : parL (lexL (unbom s)) [] pst0 = o) :
    Calls Tryz.prog 31 #[.pointer (some ⟨lb, 0, none⟩), .slice (some ⟨b, 0, none⟩) s.size c] w (LdPost o w) := by
  have HLB := Lib.hid (loadBytes_plain0 s lb b c w hs hsc hT c1 hc o ho)
  obtain ⟨n0, hn0⟩ : ∃ n1, s.size = n1 := ⟨_, rfl⟩
  rw [hn0] at HLB ⊢
  clear hc hT c1 hs hsc hn0 ho
  cases o with
  | none =>
    go_enter Tryz.func31, Tryz.ntmps31
    go_wp2_with (go_at_call 53; (with_reducible refine HLB.out.mono ?_); rintro e w2 ⟨N, rfl, hb2⟩; have HB2 := Lib.hid hb2; clear hb2; dsimp only)
    go_ret2
    exact ⟨N, rfl, HB2.out⟩
  | some p =>
    go_enter Tryz.func31, Tryz.ntmps31
    go_wp2_with (go_at_call 53; (with_reducible refine HLB.out.mono ?_); rintro e w2 ⟨pb, mb, mc, n, nc, DC, lv, rfl, hlp, hb2⟩; have HB2 := Lib.hid hb2; have HLP := Lib.hid hlp; clear hb2 hlp; dsimp only)
    go_ret2
    exact ⟨pb, mb, mc, n, nc, DC, lv, rfl, HLP.out, HB2.out⟩
end Go.Proofs.YtackciefmdiphaaGreatDoor
