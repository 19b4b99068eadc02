/- Properties in memory: made, got, set. -/
import Derived.Test.YtgmhigjhooihdaaGreatDoorProg
import Derived.WalkKit
import Derived.WalkSmall
import Derived.Lib.Hide
import Derived.Lib.Strings
import Derived.KernelRfl
import Derived.Deep.LoopGhost
import Derived.Maps.OwnOps
import Derived.Maps.OwnSet
import Derived.Maps.StringElems
import Derived.Maps.AppendAt
import Derived.StringKeys
set_option linter.unusedVariables false
namespace Go.Proofs.YtgmhigjhooihdaaGreatDoor
open Go.RowKit Go.Maps

theorem lawS : Keyed Tryz.prog 9 := string_keyed Tryz.underlying9
theorem zeroS (w : World) : (zeroValue 9).run Tryz.prog w = .ok (.string ⟨#[]⟩) w := by kernel_rfl
theorem infoStr : (Tryz.prog.info? 9).map (fun i => (i.zero, i.size, i.bytes)) = some (some (.string ⟨#[]⟩), 1, 16) := by kernel_rfl
theorem q_keep {w w' : World} {base : Nat} {e : TypeId} {size : Nat} {v : Value} {n : Nat} {xs : List Value} (h : w.ownsRow base e size v n xs) (k : ∀ g, v.ownBlock = some g → w'.heap[g]? = w.heap[g]?) : w'.ownsRow base e size v n xs := by
  refine ⟨h.1, ?_⟩
  rcases h.2 with hn | ⟨g, cap, cur, hv, h1, h2, h3⟩
  · exact .inl hn
  · exact .inr ⟨g, cap, cur, hv, h1, (k g (by rw [hv]; rfl)).trans h2, h3⟩
theorem q_is {w : World} {base : Nat} {e : TypeId} {size : Nat} {v : Value} {n : Nat} {xs : List Value} (h : w.ownsRow base e size v n xs) {g : Nat} (hg : v.ownBlock = some g) : base ≤ g ∧ ∃ cs, w.heap[g]? = some (.cells cs e (0, 0)) := by
  rcases h.2 with ⟨hv, _⟩ | ⟨g', cap, cur, hv, h1, h2, h3⟩
  · rw [hv] at hg; cases hg
  · rw [hv] at hg
    obtain rfl : g' = g := Option.some.inj hg
    exact ⟨h1, cur, h2⟩
abbrev MpS (w : World) (mb n : Nat) (D : DataW Unit) : Prop := w.ownsMap Tryz.prog 9 (plainElem Tryz.prog 9) mb n D
theorem mp_keep {w w' : World} {mb n : Nat} {D : DataW Unit} (h : MpS w mb n D) (e : w'.heap[mb]? = w.heap[mb]?) : MpS w' mb n D := by
  obtain ⟨es, clock, hb, r⟩ := h
  exact ⟨es, clock, e.trans hb, r⟩
theorem mp_is {w : World} {mb n : Nat} {D : DataW Unit} (h : MpS w mb n D) : ∃ es c, w.heap[mb]? = some (.map es c) := by
  obtain ⟨es, clock, hb, r⟩ := h
  exact ⟨es, clock, hb⟩
/-- properties at 'pb' -/
structure QS (B pb mb mc n : Nat) (D : DataW Unit) (ks : List Value) (lv : Value) (dis : Bool) (sep : ByteArray) (w : World) : Prop where
  blk : w.heap[pb]? = some (.cells #[.string ⟨#[36, 123]⟩, .string ⟨#[125]⟩, .bool dis, .map (some mb), .map (some mc), lv, .string sep] 65 (0, 0))
  mp : MpS w mb n D
  row : w.ownsRow B 9 1 lv n ks
  lo : B ≤ pb ∧ B ≤ mb
theorem seven_cells {w : World} {k : Nat} {a b c d e f g : Value} {t : TypeId} (h : w.heap[k]? = some (.cells #[a, b, c, d, e, f, g] t (0, 0))) :
    w.cell? ⟨k, 2, none⟩ = some c ∧ w.cell? ⟨k, 3, none⟩ = some d ∧ w.cell? ⟨k, 5, none⟩ = some f ∧ w.cell? ⟨k, 6, none⟩ = some g ∧ w.frozen? ⟨k, 2, none⟩ = false ∧ w.frozen? ⟨k, 5, none⟩ = false ∧ w.frozen? ⟨k, 6, none⟩ = false := by
  simp [World.cell?, World.frozen?, h]
def NewPost (w : World) (e : Ending) (w' : World) : Prop := ∃ pb mb mc lv, e = .returned (.pointer (some ⟨pb, 0, none⟩)) ∧ QS w.heap.size pb mb mc 0 (.map []) [] lv false ⟨#[]⟩ w' ∧ Below w.heap.size w w'
set_option maxRecDepth 100000 in
theorem newP_any (w : World) : Calls Tryz.prog 28 #[] w (NewPost w) := by
  have hmm := @run_makeMap Tryz.prog
  unfold NewPost
  go_enter Tryz.func28, Tryz.ntmps28
  go_wp2
  go_ret
  refine ⟨w.heap.size + 1 + 1 + 1, w.heap.size, w.heap.size + 1, .slice (some ⟨w.heap.size + 1 + 1, 0, none⟩) 0 0, rfl, ⟨?_, ?_, ?_, by omega, by omega⟩, ?_⟩
  · have := heap_alloc_new (((w.alloc (.map #[] 0)).alloc (.map #[] 0)).alloc (.cells #[] 9)) (.cells #[.string ⟨#[36, 123]⟩, .string ⟨#[125]⟩, .bool false, .map (some w.heap.size), .map (some (w.heap.size + 1)), .slice (some ⟨w.heap.size + 1 + 1, 0, none⟩) 0 0, .string ⟨#[]⟩] 65)
    simpa using this
  · refine mp_keep (World.ownsMap_made (H := Unit) w Tryz.prog 9 (plainElem Tryz.prog 9)) ?_
    rw [Below.heap_alloc _ _ _ (by simp; omega), Below.heap_alloc _ _ _ (by simp; omega), Below.heap_alloc _ _ _ (by simp)]
  · refine ⟨rfl, .inr ⟨w.heap.size + 1 + 1, 0, #[], rfl, by omega, ?_, Nat.le_refl _, by unfold maxLen; omega, rfl, rfl⟩⟩
    rw [Below.heap_alloc _ _ _ (by simp)]
    have := heap_alloc_new ((w.alloc (.map #[] 0)).alloc (.map #[] 0)) (.cells #[] 9)
    simpa using this
  · exact ((((Below.refl _ w).alloc (Nat.le_refl _) _).alloc (by simp) _).alloc (by simp; omega) _).alloc (by simp; omega) _
set_option maxRecDepth 100000 in
/-- a look-up in properties that are not expanded -/
theorem getP_any (B pb mb mc n : Nat) (D : DataW Unit) (ks : List Value) (lv : Value) (sep k : ByteArray) (w : World) (h : QS B pb mb mc n D ks lv true sep w) (hk : k.size ≤ 2147483647) :
    Calls Tryz.prog 52 #[.pointer (some ⟨pb, 0, none⟩), .string k] w fun e w' => (∃ v : ByteArray, e = .returned (.tuple #[.string v, .bool (Maps.has D (.string k.data.toList))]) ∧ D.atKey (.string k.data.toList) (.lit (.string [])) = .lit (.string v.data.toList)) ∧ w = w' := by
  obtain ⟨c2, c3, _⟩ := seven_cells h.blk
  have HM := Lib.hid h.mp
  have hkm : k.size ≤ maxLen := by unfold maxLen; omega
  clear h
  go_enter Tryz.func52, Tryz.ntmps52
  go_wp2_with (at_lookup; refine wpList_lookup_own_ok _ rfl _ _ 62 rfl 9 9 lawS Tryz.underlying62 (plainElem Tryz.prog 9) (zeroS _) (.lit (.string [])) [] (plainElem_string Tryz.underlying9 (by unfold maxLen; decide)) mb n D rfl HM.out _ _ rfl (WideMaps.keyOf_string_mk Tryz.underlying9 hkm) ?_)
  intro v ps hv
  obtain ⟨s, rfl, hz, hs⟩ := plainElem_string_inv Tryz.underlying9 hv
  have HZ := Lib.hid (congrArg Prod.fst hz)
  clear hv hz
  generalize hg : Maps.has D (.string k.data.toList) = hb
  have HG := Lib.hid hg
  clear hg
  go_wp2
  go_ret2
  exact ⟨⟨s, congrArg (fun z => Ending.returned (.tuple #[.string s, .bool z])) HG.out.symm, HZ.out⟩, rfl⟩

theorem seven_set {w : World} {k : Nat} {a b c d e f g u : Value} {t : TypeId} (h : w.heap[k]? = some (.cells #[a, b, c, d, e, f, g] t (0, 0))) (i : Nat) : (w.setCell ⟨k, i, none⟩ u).heap[k]? = some (.cells (#[a, b, c, d, e, f, g].setIfInBounds i u) t (0, 0)) := by
  simp [World.setCell, Array.getElem?_modify, h]
theorem q_ne {w : World} {g g' : Nat} {t t' : TypeId} (h : ∃ cs, w.heap[g]? = some (.cells cs t (0, 0))) (h' : ∃ cs, w.heap[g']? = some (.cells cs t' (0, 0))) (hne : t ≠ t') : g ≠ g' := by
  rintro rfl
  obtain ⟨cs, h⟩ := h
  obtain ⟨cs', h'⟩ := h'
  rw [h] at h'
  injection h' with h'
  injection h' with _ h2
  exact hne h2
theorem q_neM {w : World} {g g' : Nat} {t : TypeId} (h : ∃ cs, w.heap[g]? = some (.cells cs t (0, 0))) (h' : ∃ es c, w.heap[g']? = some (.map es c)) : g ≠ g' := by
  rintro rfl
  obtain ⟨cs, h⟩ := h
  obtain ⟨es, c, h'⟩ := h'
  rw [h] at h'
  cases h'
def SetPost (B pb mb mc : Nat) (D : DataW Unit) (n : Nat) (ks : List Value) (lv : Value) (sep k v : ByteArray) (w : World) (e : Ending) (w' : World) : Prop :=
  ∃ pv lv', e = .returned (.tuple #[.string pv, .bool false, .nilIface]) ∧ QS B pb mb mc (n + 1) (D.put (.string k.data.toList) (.lit (.string v.data.toList))) (ks ++ [.string k]) lv' true sep w' ∧ Below B w w' ∧ ∀ j, j < w.heap.size → j ≠ pb → j ≠ mb → (∀ g, lv.ownBlock = some g → j ≠ g) → w'.heap[j]? = w.heap[j]?
set_option maxHeartbeats 2000000 in
set_option maxRecDepth 100000 in
/-- a new pair is set -/
theorem setP_any (B pb mb mc n : Nat) (D : DataW Unit) (ks : List Value) (lv : Value) (sep k v : ByteArray) (w : World) (h : QS B pb mb mc n D ks lv true sep w) (hn : n ≤ 100000) (hk0 : ¬ k.size = 0) (hk : k.size ≤ 2147483647) (hv : v.size ≤ 2147483647) (hnew : Maps.has D (.string k.data.toList) = false) :
    Calls Tryz.prog 51 #[.pointer (some ⟨pb, 0, none⟩), .string k, .string v] w (SetPost B pb mb mc D n ks lv sep k v w) := by
  unfold SetPost
  obtain ⟨i0, hi, hz0, hz1, hz2⟩ := info_parts infoStr
  obtain ⟨c2, c3, c5, c6, f2, f5, f6⟩ := seven_cells h.blk
  have hkm : k.size ≤ maxLen := by unfold maxLen; omega
  have hvm : v.size ≤ maxLen := by unfold maxLen; omega
  have hke : k.toList.isEmpty = false := by
    rw [ByteArray.toList_eq]
    cases h9 : k.data.toList with
    | nil => exact absurd (by rw [Lib.size_eq, h9]; rfl) hk0
    | cons a l => rfl
  have HG := Lib.hid (getP_any B pb mb mc n D ks lv sep k w h hk)
  have HQ := Lib.hid h
  have HNW := Lib.hid hnew
  have hpm : pb ≠ mb := q_neM ⟨_, h.blk⟩ (mp_is h.mp)
  have hlp : ∀ g, lv.ownBlock = some g → g ≠ pb := fun g hg => q_ne (q_is h.row hg).2 ⟨_, h.blk⟩ (by decide)
  have hlm : ∀ g, lv.ownBlock = some g → g ≠ mb := fun g hg => q_neM (q_is h.row hg).2 (mp_is h.mp)
  have HPM := Lib.hid hpm
  have HLP := Lib.hid hlp
  have HLM := Lib.hid hlm
  clear h hnew hk0 hpm hlp hlm
  go_enter Tryz.func51, Tryz.ntmps51
  go_wp2_with (go_at_call 52; with_reducible refine HG.out.mono ?_)
  rintro e w1 ⟨⟨pv, rfl, _⟩, rfl⟩
  rw [HNW.out]
  dsimp only
  go_wp2_with (at_mapUpdate; refine wpList_mapUpdate_own _ rfl _ _ _ 62 rfl 9 9 lawS Tryz.underlying62 (plainElem Tryz.prog 9) mb n D rfl HQ.out.mp (by unfold maxLen; omega) _ _ _ rfl rfl (WideMaps.keyOf_string_mk Tryz.underlying9 hkm) _ [] (plainElem_string Tryz.underlying9 hvm) ?_)
  intro W1 hown1 hgrow1
  have hb1 : W1.heap[pb]? = _ := (hgrow1.block pb (lt_of_block HQ.out.blk) (fun e => HPM.out (Option.some.inj e))).trans HQ.out.blk
  obtain ⟨d2, d3, d5, d6, z2, z5, z6⟩ := seven_cells hb1
  have hrow1 := q_keep HQ.out.row (fun g hg => hgrow1.block g (by obtain ⟨_, cs, hcs⟩ := q_is HQ.out.row hg; exact lt_of_block hcs) (fun e => HLM.out g hg (Option.some.inj e)))
  have HK1 : Hid (∀ j, j < w.heap.size → j ≠ mb → W1.heap[j]? = w.heap[j]?) := Lib.hid (fun j h1 h2 => hgrow1.block j h1 (fun e => h2 (Option.some.inj e)))
  have HSZ1 := Lib.hid hgrow1.size
  have HB1 : Hid (Below B w W1) := Lib.hid ((Below.refl B w).grown hgrow1 (Nat.le_trans HQ.out.lo.1 (Nat.le_of_lt (lt_of_block HQ.out.blk))) (fun k hk => by have h9 : mb = k := Option.some.inj hk; have := HQ.out.lo.2; omega))
  have HR1 := Lib.hid hrow1
  have HM1 : Hid (MpS W1 mb (n + 1) _) := Lib.hid hown1
  have HBK := Lib.hid hb1
  have hBW : B ≤ W1.heap.size := Nat.le_trans HQ.out.lo.1 (Nat.le_of_lt (lt_of_block hb1))
  clear hown1 hgrow1 hrow1 hb1 c2 c3 c5 c6 f2 f5 f6
  go_wp2_with (at_builtin; refine wpList_append_own_at _ rfl _ _ 32 rfl B 9 i0 (.string ⟨#[]⟩) 1 16 Tryz.underlying32 hi hz0 hz1 hz2 rfl (by decide) lv n ks rfl (HR1.out.alloc _) ⟨W1.heap.size, 0, none⟩ 1 1 [.string k] rfl rfl (cell_one_new _ _ _) (by intro u hu; simp at hu; subst hu; rfl) (by unfold maxLen; omega) (by omega) (by simp; omega) ?_)
  intro v' w2 hown2 hgr _ _
  obtain ⟨g9, cap9, rfl⟩ : ∃ g9 cap9, v' = .slice (some ⟨g9, 0, none⟩) (n + 1) cap9 := by
    rcases hown2.2 with ⟨_, h0⟩ | ⟨g9, cap9, cur, hv, _⟩
    · omega
    · exact ⟨g9, cap9, hv⟩
  have hb2 : w2.heap[pb]? = _ := ((hgr.block pb (by simp; exact Nat.lt_of_lt_of_le (lt_of_block HBK.out) (by omega)) (fun e => HLP.out pb e.symm rfl)).trans (Below.heap_alloc W1 _ _ (lt_of_block HBK.out))).trans HBK.out
  obtain ⟨e2, e3, e5, e6, y2, y5, y6⟩ := seven_cells hb2
  have HBK2 := Lib.hid hb2
  have hm2 : MpS w2 mb (n + 1) _ := mp_keep HM1.out ((hgr.block mb (by obtain ⟨es, c, hm⟩ := mp_is HM1.out; have := lt_of_block hm; simp; omega) (fun e => HLM.out mb e.symm rfl)).trans (Below.heap_alloc W1 _ _ (by obtain ⟨es, c, hm⟩ := mp_is HM1.out; exact lt_of_block hm)))
  have HM2 := Lib.hid hm2
  have HB2 := Lib.hid ((HB1.out.alloc hBW _).grown hgr (by simp; omega) (fun g hg => (q_is HR1.out hg).1))
  have HR2 := Lib.hid hown2
  have hvp : ∀ g, (Value.slice (some ⟨g9, 0, none⟩) (n + 1) cap9).ownBlock = some g → g ≠ pb := fun g hg => q_ne (q_is HR2.out hg).2 ⟨_, HBK2.out⟩ (by decide)
  have HVP := Lib.hid hvp
  have HK2 : Hid (∀ j, j < w.heap.size → j ≠ mb → (∀ g, lv.ownBlock = some g → j ≠ g) → w2.heap[j]? = w.heap[j]?) := Lib.hid (fun j h1 h2 h3 => ((hgr.block j (by have := HSZ1.out; simp; omega) (fun e => h3 j e.symm rfl)).trans (Below.heap_alloc W1 _ _ (by have := HSZ1.out; omega))).trans (HK1.out j h1 h2))
  clear hb2 hm2 hown2 hgr hvp d2 d3 d5 d6 z2 z5 z6
  go_wp2
  go_ret3
  refine ⟨pv, _, rfl, ⟨seven_set HBK2.out 5, mp_keep HM2.out (Below.heap_setCell _ _ _ _ (fun e => HPM.out e.symm)), q_keep HR2.out (fun g hg => Below.heap_setCell _ _ _ _ (HVP.out g hg)), HQ.out.lo⟩, HB2.out.setCell HQ.out.lo.1 _, fun j h1 h2 h3 h4 => (Below.heap_setCell _ _ _ _ h2).trans (HK2.out j h1 h3 h4)⟩
end Go.Proofs.YtgmhigjhooihdaaGreatDoor
