/- A step that merges a text into properties that are empty. -/
import Derived.Test.YtackciefmdiphaaGreatDoorMerge
import Derived.Defers
import Derived.Recover
import Derived.Deep.RegionLaw
import Derived.ScopeJumps
set_option linter.unusedVariables false
namespace Go.Proofs.YtackciefmdiphaaGreatDoor
open Go.RowKit Plain Go.Maps

set_option maxRecDepth 100000 in
theorem stp_idle (p : Value) (w : World) :
    CallsD Tryz.prog 66 #[p] .returning w fun e u' w' => e = .returned (.tuple #[]) ∧ u' = .returning ∧ w' = w := by
  refine callsD_of_wpS Tryz.func66 rfl fun c₀ cs hu => ?_
  apply wpS_seq
  apply wpS_region
  simp [wpOpsS, go_sem, recoverD, hu, Tryz.ntmps66, Exit.thenS]
  refine wpS_cond (t := false) (by simp [Act.eval, Array.replicate]) ?_
  simp only [Bool.false_eq_true, if_false]
  refine wpS_of_wp (wp_skip ?_)
  cases c₀
  simp_all [bodyPostS, results, Tryz.results66]
theorem five_cells {w : World} {k : Nat} {a b c d e : Value} {t : TypeId} (h : w.heap[k]? = some (.cells #[a, b, c, d, e] t (0, 0))) :
    w.cell? ⟨k, 0, none⟩ = some a ∧ w.cell? ⟨k, 1, none⟩ = some b ∧ w.cell? ⟨k, 2, none⟩ = some c ∧ w.cell? ⟨k, 3, none⟩ = some d ∧ w.cell? ⟨k, 4, none⟩ = some e ∧ w.frozen? ⟨k, 0, none⟩ = false ∧ w.frozen? ⟨k, 1, none⟩ = false ∧ w.frozen? ⟨k, 2, none⟩ = false ∧ w.frozen? ⟨k, 3, none⟩ = false ∧ w.frozen? ⟨k, 4, none⟩ = false := by
  simp [World.cell?, World.frozen?, h]
theorem five_set {w : World} {k : Nat} {a b c d e a' b' c' d' e' : Value} {t : TypeId} (h : w.heap[k]? = some (.cells #[a, b, c, d, e] t (0, 0))) :
    (((((w.setCell ⟨k, 0, none⟩ a').setCell ⟨k, 1, none⟩ b').setCell ⟨k, 2, none⟩ c').setCell ⟨k, 3, none⟩ d').setCell ⟨k, 4, none⟩ e').heap[k]? = some (.cells #[a', b', c', d', e'] t (0, 0)) := by
  simp [World.setCell, Array.getElem?_modify, h]
theorem five_below {w : World} {B k : Nat} {a' b' c' d' e' : Value} (h : B ≤ k) : Below B w (((((w.setCell ⟨k, 0, none⟩ a').setCell ⟨k, 1, none⟩ b').setCell ⟨k, 2, none⟩ c').setCell ⟨k, 3, none⟩ d').setCell ⟨k, 4, none⟩ e') :=
  (((((Below.refl B w).setCell (p := ⟨k, 0, none⟩) h _).setCell (p := ⟨k, 1, none⟩) h _).setCell (p := ⟨k, 2, none⟩) h _).setCell (p := ⟨k, 3, none⟩) h _).setCell (p := ⟨k, 4, none⟩) h _
def MsPost (B1 pb mb mc : Nat) (o : Option PSt) (w : World) (e : Ending) (w' : World) : Prop :=
  (∃ f : Bool, e = .returned (.agg #[.string ⟨#[]⟩, .int .i64 0, .bool false, .bool f, .slice none 0 0])) ∧ Below B1 w w' ∧ match o with
  | some p => ∃ nc DC lv', LP B1 pb mb mc (Maps.size p.D) nc p DC lv' true w'
  | none => ∃ lv', LP B1 pb mb mc 0 0 pst0 (.map []) lv' true w'
set_option maxHeartbeats 8000000 in
set_option maxRecDepth 100000 in
theorem step6_any (B1 pb mb mc : Nat) (lv : Value) (s : ByteArray) (w : World) (hT : TG B1 pb mb mc 0 0 [] (.map []) (.map []) lv w) (hs : s.size ≤ 100000) (hTb : Tabs w) (o : Option PSt) (ho : parL (lexL (unbom s)) [] pst0 = o) :
    Calls Tryz.prog 49 #[.pointer (some ⟨pb, 0, none⟩), .agg #[.int .i64 6, .string ⟨#[]⟩, .string ⟨#[]⟩, .string s]] w (MsPost B1 pb mb mc o w) := by
  have hBw : B1 ≤ w.heap.size := by have := hT.lo.1; have := lt_of_block hT.blk; omega
  obtain ⟨b3, hb3⟩ : ∃ b, w.heap.size = b := ⟨_, rfl⟩
  obtain ⟨W1, hW1⟩ : ∃ W, ((w.alloc (.cells #[.int .i64 6, .string ⟨#[]⟩, .string ⟨#[]⟩, .string s] 58)).alloc (.cells #[.string ⟨#[]⟩, .int .i64 0, .bool false, .bool false, .slice none 0 0] 95)).alloc (.cells #[.int .u64 0, .bool true, .bool false] 64) = W := ⟨_, rfl⟩
  have hb1 : Below w.heap.size w W1 := hW1 ▸ (((Below.refl _ w).alloc (Nat.le_refl _) _).alloc (by simp) _).alloc (by simp; omega) _
  have hs1 : W1.heap.size = b3 + 3 := by rw [← hW1, ← hb3]; simp
  have hk3 : W1.heap[b3]? = some (.cells #[.int .i64 6, .string ⟨#[]⟩, .string ⟨#[]⟩, .string s] 58 (0, 0)) := by
    rw [← hW1, ← hb3, Below.heap_alloc _ _ _ (by simp; omega), Below.heap_alloc _ _ _ (by simp)]
    exact heap_alloc_new w _
  have hk4 : W1.heap[b3 + 1]? = some (.cells #[.string ⟨#[]⟩, .int .i64 0, .bool false, .bool false, .slice none 0 0] 95 (0, 0)) := by
    rw [← hW1, ← hb3, Below.heap_alloc _ _ _ (by simp)]
    have := heap_alloc_new (w.alloc (.cells #[.int .i64 6, .string ⟨#[]⟩, .string ⟨#[]⟩, .string s] 58)) (.cells #[.string ⟨#[]⟩, .int .i64 0, .bool false, .bool false, .slice none 0 0] 95)
    simpa using this
  have hk5 : W1.heap[b3 + 2]? = some (.cells #[.int .u64 0, .bool true, .bool false] 64 (0, 0)) := by
    rw [← hW1, ← hb3]
    have := heap_alloc_new ((w.alloc (.cells #[.int .i64 6, .string ⟨#[]⟩, .string ⟨#[]⟩, .string s] 58)).alloc (.cells #[.string ⟨#[]⟩, .int .i64 0, .bool false, .bool false, .slice none 0 0] 95)) (.cells #[.int .u64 0, .bool true, .bool false] 64)
    simpa using this
  have s3 : W1.cell? ⟨b3, 3, none⟩ = some (.string s) := by simp [World.cell?, hk3]
  obtain ⟨W2, hW2⟩ : ∃ W, Lib.bytesWorld W1 5 s = W := ⟨_, rfl⟩
  have hb2 : Below W1.heap.size W1 W2 := hW2 ▸ ⟨rfl, rfl, rfl, by rw [Lib.bytesWorld_size]; omega, fun j hj => Lib.bytesWorld_at_old W1 5 s j hj⟩
  obtain ⟨cap, hcap⟩ : ∃ c, grownCap W1 s.size 0 5 = c := ⟨_, rfl⟩
  have hcv := Lib.run_convert_string_bytes (P := Tryz.prog) W1 9 70 5 s Tryz.underlying9 Tryz.underlying70 Tryz.underlying5
  rw [hW2, hcap, hs1] at hcv
  have hcell : ∀ i, i < s.size → W2.cell? ⟨b3 + 3, i, none⟩ = some (.int .u8 ((numsB s).getD i 0)) := fun i hi => by
    have := numsB_cell s W1 i hi
    rwa [hW2, hs1] at this
  have hk52 : W2.heap[b3 + 2]? = _ := (hb2.block _ (by omega)).trans hk5
  have hk42 : W2.heap[b3 + 1]? = _ := (hb2.block _ (by omega)).trans hk4
  have hb02 := bthen hb1 hb2
  have HLB := Lib.hid (loadBytesU_plain0 s (b3 + 2) (b3 + 3) cap W2 hs (hcap ▸ grownCap_ge _ _ _ _) (hTb.below hb02) (by simp [World.cell?, hk52]) (by simp [World.cell?, hk52]) hcell o ho)
  have HB02 := Lib.hid hb02
  have HW1 := Lib.hid hW1
  have HK4 := Lib.hid hk42
  have HT := Lib.hid hT
  obtain ⟨n0, hn0⟩ : ∃ n1, s.size = n1 := ⟨_, rfl⟩
  rw [hn0] at hcv HLB
  have HBD : Hid (∀ p, o = some p → PBd 1000000 1000000 p) := Lib.hid (fun p hp => parL_small (unbom s) p (Nat.le_trans (unbom_size s) hs) (hp ▸ ho))
  have hs2 : b3 + 3 < W2.heap.size := by have := Lib.bytesWorld_size W1 5 s; rw [hW2] at this; omega
  clear hb1 hb2 hcap hcell hk3 hk4 hk5 hk52 hk42 hb02 hW1 hW2 hn0 hs hTb ho hT
  unfold MsPost
  cases o with
  | none =>
    go_enter_defers Tryz.func49, Tryz.ntmps49
    go_wp2_with (first
      | (rw [HW1.out])
      | (go_at_call 31; (with_reducible refine HLB.out.mono ?_); rintro e w3 ⟨N, rfl, hb3'⟩; have HB3 := Lib.hid hb3'; obtain ⟨c0, c1, c2, c3, c4, f0, f1, f2, f3, f4⟩ := five_cells ((hb3'.block (b3 + 1) (by omega)).trans HK4.out); clear hb3'; dsimp only))
    have hbk : w3.heap[b3 + 1]? = _ := (HB3.out.block (b3 + 1) (by omega)).trans HK4.out
    have h5 := five_set (a' := .string ⟨#[]⟩) (b' := .int .i64 0) (c' := .bool false) (d' := .bool true) (e' := .slice none 0 0) hbk
    have h6 := five_below (w := w3) (B := b3) (k := b3 + 1) (a' := .string ⟨#[]⟩) (b' := .int .i64 0) (c' := .bool false) (d' := .bool true) (e' := .slice none 0 0) (by omega)
    obtain ⟨W5, hW5⟩ : ∃ W, (((((w3.setCell ⟨b3 + 1, 0, none⟩ (.string ⟨#[]⟩)).setCell ⟨b3 + 1, 1, none⟩ (.int .i64 0)).setCell ⟨b3 + 1, 2, none⟩ (.bool false)).setCell ⟨b3 + 1, 3, none⟩ (.bool true)).setCell ⟨b3 + 1, 4, none⟩ (.slice none 0 0)) = W := ⟨_, rfl⟩
    rw [hW5] at h5 h6 ⊢
    obtain ⟨d0, d1, d2, d3, d4, _⟩ := five_cells h5
    have hfin : Below w.heap.size w W5 := (bthen HB02.out HB3.out).trans (h6.mono (by omega))
    have HF := Lib.hid hfin
    clear h5 h6 hW5 hbk hfin c0 c1 c2 c3 c4 f0 f1 f2 f3 f4
    refine leaves_cons (f := 66) (args := #[.pointer (some ⟨b3 + 1, 0, none⟩)]) (by simp) (by simp [go_sem]) ?_
    refine (stp_idle _ _).mono ?_
    rintro e u' w'' ⟨rfl, rfl, rfl⟩
    simp [Leaves, settle, results, Tryz.results49, go_sem, d0, d1, d2, d3, d4]
    have hT := HT.out.below HF.out
    exact ⟨HF.out.mono hBw, lv, hT.blk, hT.mp, hT.cp, hT.row, CRel.zero _ _ _ _, hT.lo.1, hT.lo.2.1, hT.lo.2.2.1⟩
  | some p =>
    have hbd := HBD.out p rfl
    go_enter_defers Tryz.func49, Tryz.ntmps49
    go_wp2_with (first
      | (rw [HW1.out])
      | (go_at_call 31; (with_reducible refine HLB.out.mono ?_); rintro e w3 ⟨ob, omb, omc, on, onc, DC, lo, rfl, hlp, hb3'⟩; have HB3 := Lib.hid hb3'; have HLP := Lib.hid (show LP W2.heap.size ob omb omc (Maps.size p.D) onc p DC lo true w3 from ⟨hlp.blk, mp_size hlp.mp, hlp.cp, hlp.row, hlp.cr, hlp.lo⟩); have hbk3 : w3.heap[b3 + 1]? = _ := (hb3'.block (b3 + 1) (by omega)).trans HK4.out; have HBK3 := Lib.hid hbk3; clear hb3' hlp hbk3; have HTw := Lib.hid (HT.out.below (bthen HB02.out HB3.out)); have HMG := Lib.hid (merge_any B1 b3 pb mb mc ob omb omc (Maps.size p.D) onc p DC lv lo w3 HTw.out (HLP.out.base (by omega)) ⟨by have := lt_of_block HT.out.blk; omega, by have := map_lt (mp_is HT.out.mp); omega, by have := map_lt (mpc_is HT.out.cp); omega, fun g hg => by have := (row_lt HT.out.row hg).2; omega⟩ (by omega) hbd.dn hbd.kn hbd.keys); dsimp only)
      | (go_at_call 71; (with_reducible refine HMG.out.mono ?_); rintro e w4 ⟨rfl, lv', hlp4, hb4, hm4⟩; have HB4 := Lib.hid hb4; have HLP4 := Lib.hid hlp4; have hbk4 : w4.heap[b3 + 1]? = _ := (hm4 (b3 + 1) (by omega) (lt_of_block HBK3.out)).trans HBK3.out; have HBK4 := Lib.hid hbk4; obtain ⟨c0, c1, c2, c3, c4, f0, f1, f2, f3, f4⟩ := five_cells hbk4; clear hb4 hlp4 hm4 hbk4; dsimp only))
    have h5 := five_set (a' := .string ⟨#[]⟩) (b' := .int .i64 0) (c' := .bool false) (d' := .bool false) (e' := .slice none 0 0) HBK4.out
    have h6 := five_below (w := w4) (B := b3) (k := b3 + 1) (a' := .string ⟨#[]⟩) (b' := .int .i64 0) (c' := .bool false) (d' := .bool false) (e' := .slice none 0 0) (by omega)
    have hlp5 : ∀ W, (∀ j, j ≠ b3 + 1 → W.heap[j]? = w4.heap[j]?) → LP B1 pb mb mc (Maps.size p.D) onc p DC lv' true W := fun W hk => by
      have hh := HLP4.out
      have hne : ∀ {j : Nat} {c : Array Value} {u : TypeId}, w4.heap[j]? = some (.cells c u (0, 0)) → u ≠ 95 → j ≠ b3 + 1 := fun h1 h2 e => by
        rw [e, HBK4.out] at h1
        injection h1 with h1
        injection h1 with _ h1
        exact h2 h1.symm
      have hnm : ∀ {j : Nat}, (∃ es c, w4.heap[j]? = some (.map es c)) → j ≠ b3 + 1 := fun h e => by
        obtain ⟨es, c, h1⟩ := h
        rw [e, HBK4.out] at h1
        injection h1 with h1
        exact Obj.noConfusion h1
      exact ⟨(hk pb (hne hh.blk (by decide))).trans hh.blk, mp_keep hh.mp (hk mb (hnm (mp_is hh.mp))), mpc_keep hh.cp (hk mc (hnm (mpc_is hh.cp))), row_keep hh.row (fun g hg => by obtain ⟨cs, h1⟩ := row_cells hh.row hg; exact hk g (hne h1 (by decide))), hh.cr.keep (fun g cs h1 _ _ => hk g (hne h1 (by decide))) (.inl rfl) (.inl rfl), hh.lo⟩
    have h7 := hlp5 (((((w4.setCell ⟨b3 + 1, 0, none⟩ (.string ⟨#[]⟩)).setCell ⟨b3 + 1, 1, none⟩ (.int .i64 0)).setCell ⟨b3 + 1, 2, none⟩ (.bool false)).setCell ⟨b3 + 1, 3, none⟩ (.bool false)).setCell ⟨b3 + 1, 4, none⟩ (.slice none 0 0)) (fun j hj => by
      rw [Below.heap_setCell _ _ _ _ hj, Below.heap_setCell _ _ _ _ hj, Below.heap_setCell _ _ _ _ hj, Below.heap_setCell _ _ _ _ hj, Below.heap_setCell _ _ _ _ hj])
    obtain ⟨W5, hW5⟩ : ∃ W, (((((w4.setCell ⟨b3 + 1, 0, none⟩ (.string ⟨#[]⟩)).setCell ⟨b3 + 1, 1, none⟩ (.int .i64 0)).setCell ⟨b3 + 1, 2, none⟩ (.bool false)).setCell ⟨b3 + 1, 3, none⟩ (.bool false)).setCell ⟨b3 + 1, 4, none⟩ (.slice none 0 0)) = W := ⟨_, rfl⟩
    rw [hW5] at h5 h6 h7 ⊢
    obtain ⟨d0, d1, d2, d3, d4, _⟩ := five_cells h5
    have hfin : Below B1 w W5 := (((bthen HB02.out HB3.out).mono hBw).trans HB4.out).trans (h6.mono (by omega))
    have HF := Lib.hid hfin
    have H7 := Lib.hid h7
    clear h5 h6 h7 hlp5 hW5 hfin c0 c1 c2 c3 c4 f0 f1 f2 f3 f4
    refine leaves_cons (f := 66) (args := #[.pointer (some ⟨b3 + 1, 0, none⟩)]) (by simp) (by simp [go_sem]) ?_
    refine (stp_idle _ _).mono ?_
    rintro e u' w'' ⟨rfl, rfl, rfl⟩
    simp [Leaves, settle, results, Tryz.results49, go_sem, d0, d1, d2, d3, d4]
    exact ⟨HF.out, _, _, _, H7.out⟩
end Go.Proofs.YtackciefmdiphaaGreatDoor
