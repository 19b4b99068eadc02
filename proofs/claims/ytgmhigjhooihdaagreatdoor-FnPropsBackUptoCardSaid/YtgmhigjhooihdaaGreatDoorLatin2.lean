/- Loading a text of ISO-8859-1 without expansion: the loader. -/
import Derived.Test.YtgmhigjhooihdaaGreatDoorLatin
set_option linter.unusedVariables false
namespace Go.Proofs.YtgmhigjhooihdaaGreatDoor
open Go.RowKit Plain Go.Maps

set_option maxHeartbeats 2000000 in
set_option maxRecDepth 100000 in
theorem loadBytes_lat (s : ByteArray) (lb b c : Nat) (w : World) (hs : s.size ≤ 25000) (hsc : s.size ≤ c) (hT : Tabs w) (c1 : w.cell? ⟨lb, 1, none⟩ = some (.bool true)) (hc : ∀ i, i < s.size → w.cell? ⟨b, i, none⟩ = some (.int .u8 ((numsB s).getD i 0))) (o : Option PSt) (ho : parL (lexL (latT s)) [] pst0 = o) :
    Calls Tryz.prog 69 #[.pointer (some ⟨lb, 0, none⟩), .slice (some ⟨b, 0, none⟩) s.size c, .int .u64 2] w (LdPost o w) := by
  have hll := Lib.lt_of_cell c1
  have HCV := Lib.hid (convertL_any b s.size c s w rfl (by omega) hc)
  have HPA : Hid (∀ y, Below w.heap.size w y → Calls Tryz.prog 86 #[.string (latT s)] y (ParPost o y)) := Lib.hid (fun y hy => parse_any (latT s) y (by have := latT_size s; omega) (hT.below hy) o ho)
  have d1 : ∀ y, Below w.heap.size w y → y.cell? ⟨lb, 1, none⟩ = some (.bool true) := fun y hy => (hy.cell hll).trans c1
  have HD1 := Lib.hid d1
  obtain ⟨n0, hn0⟩ : ∃ n1, s.size = n1 := ⟨_, rfl⟩
  rw [hn0] at HCV ⊢
  obtain ⟨U, hU⟩ : ∃ U, latT s = U := ⟨_, rfl⟩
  rw [hU] at HCV HPA
  clear hc d1 hn0 hU hT c1
  cases o with
  | none =>
    go_enter Tryz.func69, Tryz.ntmps69
    go_wp2_with (first
      | (go_at_call 87; (with_reducible refine HCV.out.mono ?_); rintro e w1 ⟨rfl, hb1⟩; have HB1 := Lib.hid hb1; clear hb1; dsimp only)
      | (go_at_call 86; (with_reducible refine (HPA.out _ HB1.out).mono ?_); rintro e w2 ⟨P, N, rfl, hb2⟩; have HB2 := Lib.hid hb2; clear hb2; dsimp only))
    go_ret2
    exact ⟨N, rfl, bthen HB1.out HB2.out⟩
  | some p =>
    go_enter Tryz.func69, Tryz.ntmps69
    go_wp2_with (first
      | (go_at_call 87; (with_reducible refine HCV.out.mono ?_); rintro e w1 ⟨rfl, hb1⟩; have HB1 := Lib.hid hb1; clear hb1; dsimp only)
      | (go_at_call 86; (with_reducible refine (HPA.out _ HB1.out).mono ?_); rintro e w2 ⟨pb, mb, mc, n, nc, DC, lv, rfl, hpq, hcr, hb2⟩; have HB2 := Lib.hid hb2; have HPQ := Lib.hid hpq; have HCR := Lib.hid hcr; have e1 := HD1.out w2 (bthen HB1.out hb2); obtain ⟨_, _, _, _, f2, _⟩ := seven_cells hpq.blk; clear hb2 hpq hcr; dsimp only))
    go_ret2
    have hsz := HB1.out.size
    exact ⟨pb, mb, mc, n, nc, DC, lv, rfl, (LP.of true HPQ.out HCR.out).base hsz, (bthen HB1.out HB2.out).setCell (p := ⟨pb, 2, none⟩) (Nat.le_trans hsz HPQ.out.lo.1) _⟩
set_option maxRecDepth 100000 in
theorem loadBytesU_lat (s : ByteArray) (lb b c : Nat) (w : World) (hs : s.size ≤ 25000) (hsc : s.size ≤ c) (hT : Tabs w) (c0 : w.cell? ⟨lb, 0, none⟩ = some (.int .u64 2)) (c1 : w.cell? ⟨lb, 1, none⟩ = some (.bool true)) (hc : ∀ i, i < s.size → w.cell? ⟨b, i, none⟩ = some (.int .u8 ((numsB s).getD i 0))) (o : Option PSt) (ho : parL (lexL (latT s)) [] pst0 = o) :
    Calls Tryz.prog 42 #[.pointer (some ⟨lb, 0, none⟩), .slice (some ⟨b, 0, none⟩) s.size c] w (LdPost o w) := by
  have HLB := Lib.hid (loadBytes_lat s lb b c w hs hsc hT c1 hc o ho)
  obtain ⟨n0, hn0⟩ : ∃ n1, s.size = n1 := ⟨_, rfl⟩
  rw [hn0] at HLB ⊢
  clear hc hT c1 hs hsc hn0 ho
  cases o with
  | none =>
    go_enter Tryz.func42, Tryz.ntmps42
    go_wp2_with (go_at_call 69; (with_reducible refine HLB.out.mono ?_); rintro e w2 ⟨N, rfl, hb2⟩; have HB2 := Lib.hid hb2; clear hb2; dsimp only)
    go_ret2
    exact ⟨N, rfl, HB2.out⟩
  | some p =>
    go_enter Tryz.func42, Tryz.ntmps42
    go_wp2_with (go_at_call 69; (with_reducible refine HLB.out.mono ?_); rintro e w2 ⟨pb, mb, mc, n, nc, DC, lv, rfl, hlp, hb2⟩; have HB2 := Lib.hid hb2; have HLP := Lib.hid hlp; clear hb2 hlp; dsimp only)
    go_ret2
    exact ⟨pb, mb, mc, n, nc, DC, lv, rfl, HLP.out, HB2.out⟩
set_option maxHeartbeats 2000000 in
set_option maxRecDepth 100000 in
theorem loadProps_lat (s : ByteArray) (w : World) (hs : s.size ≤ 25000) (hT : Tabs w) (o : Option PSt) (ho : parL (lexL (latT s)) [] pst0 = o) :
    Calls Tryz.prog 21 #[.string s, .int .i64 2, .bool true] w (LpPost o w) := by
  obtain ⟨W1, hW1⟩ : ∃ W, w.alloc (.cells #[.int .u64 2, .bool true, .bool false] 78) = W := ⟨_, rfl⟩
  have hb1 : Below w.heap.size w W1 := hW1 ▸ (Below.refl _ w).alloc (Nat.le_refl _) _
  have hs1 : W1.heap.size = w.heap.size + 1 := by rw [← hW1]; simp
  have hblk : W1.heap[w.heap.size]? = _ := hW1 ▸ heap_alloc_new w _
  obtain ⟨W2, hW2⟩ : ∃ W, Lib.bytesWorld W1 5 s = W := ⟨_, rfl⟩
  have hb2 : Below W1.heap.size W1 W2 := hW2 ▸ ⟨rfl, rfl, rfl, by rw [Lib.bytesWorld_size]; omega, fun j hj => Lib.bytesWorld_at_old W1 5 s j hj⟩
  obtain ⟨cap, hcap⟩ : ∃ c, grownCap W1 s.size 0 5 = c := ⟨_, rfl⟩
  have hcv := Lib.run_convert_string_bytes (P := Tryz.prog) W1 9 83 5 s Tryz.underlying9 Tryz.underlying83 Tryz.underlying5
  rw [hW2, hcap, hs1] at hcv
  have hcell : ∀ i, i < s.size → W2.cell? ⟨w.heap.size + 1, i, none⟩ = some (.int .u8 ((numsB s).getD i 0)) := fun i hi => by
    have := numsB_cell s W1 i hi
    rwa [hW2, hs1] at this
  have hblk2 : W2.heap[w.heap.size]? = _ := (hb2.block _ (by omega)).trans hblk
  have hb02 := bthen hb1 hb2
  have HLB := Lib.hid (loadBytesU_lat s w.heap.size (w.heap.size + 1) cap W2 hs (hcap ▸ grownCap_ge _ _ _ _) (hT.below hb02) (by simp [World.cell?, hblk2]) (by simp [World.cell?, hblk2]) hcell o ho)
  have HB02 := Lib.hid hb02
  have HW1 := Lib.hid hW1
  obtain ⟨n0, hn0⟩ : ∃ n1, s.size = n1 := ⟨_, rfl⟩
  rw [hn0] at hcv HLB
  have HBD : Hid (∀ p, o = some p → PBd 1000000 1000000 p) := Lib.hid (fun p hp => parL_small (latT s) p (by have := latT_size s; omega) (hp ▸ ho))
  clear hb1 hblk hb2 hcap hcell hblk2 hb02 hW1 hW2 hn0 hs hT ho hs1
  unfold LpPost
  cases o with
  | none =>
    go_enter Tryz.func21, Tryz.ntmps21
    go_wp2_with (first
      | (rw [HW1.out])
      | (go_at_call 42; (with_reducible refine HLB.out.mono ?_); rintro e w3 ⟨N, rfl, hb3⟩; have HB3 := Lib.hid hb3; clear hb3; dsimp only))
    go_ret2
    exact ⟨bthen HB02.out HB3.out, rfl⟩
  | some p =>
    have hbd := HBD.out p rfl
    go_enter Tryz.func21, Tryz.ntmps21
    go_wp2_with (first
      | (rw [HW1.out])
      | (go_at_call 42; (with_reducible refine HLB.out.mono ?_); rintro e w3 ⟨pb, mb, mc, n, nc, DC, lv, rfl, hlp, hb3⟩; have HB3 := Lib.hid hb3; have HLP := Lib.hid hlp; have HPR := Lib.hid (props_any W2.heap.size pb mb mc (Maps.size p.D) nc p DC lv true (rawOf p.D) w3 ⟨hlp.blk, mp_size hlp.mp, hlp.cp, hlp.row, hlp.cr, hlp.lo⟩ (by have := hbd.dn; omega) (by have := hbd.kn; omega) (fun k hk => by have := hbd.keys k hk; omega) (fun k l hl => by have := hbd.cn k l hl; omega) (fun k hk wr hwr => (getL_any _ pb mb mc n nc p DC lv k wr (hlp.below hwr) (by have := hbd.keys k hk; omega)).mono (by rintro e w' ⟨rfl, rfl⟩; exact ⟨_, rfl, Below.refl _ _⟩))); clear hb3 hlp; dsimp only)
      | (go_at_call 43; (with_reducible refine HPR.out.mono ?_); rintro e w4 ⟨v, rfl, hv, hb4⟩; have HB4 := Lib.hid hb4; have HV := Lib.hid hv; clear hb4 hv; dsimp only))
    go_ret2
    have hb03 := bthen HB02.out HB3.out
    exact ⟨bthen hb03 HB4.out, v, rfl, HV.out.base hb03.size⟩
end Go.Proofs.YtgmhigjhooihdaaGreatDoor
