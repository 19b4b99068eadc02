/- Properties in memory, without expansion, whatever their separator: made, set, given comments. -/
import Derived.Test.YtgmhigjhooihdaaGreatDoorZzIt
import Derived.Lib.SliceRun
set_option linter.unusedVariables false
namespace Go.Proofs.YtgmhigjhooihdaaGreatDoor
open Go.RowKit Plain Go.Maps

structure PGr (B pb mb mc : Nat) (p : PSt) (DC : DataW Value) (lv : Value) (dis : Bool) (sep : ByteArray) (w : World) : Prop where
  blk : w.heap[pb]? = some (.cells #[.string ⟨#[36, 123]⟩, .string ⟨#[125]⟩, .bool dis, .map (some mb), .map (some mc), lv, .string sep] 65 (0, 0))
  mp : MpS w mb (Maps.size p.D) p.D
  cp : MpC w mc (Maps.size DC) DC
  row : w.ownsRow B 9 1 lv p.ks.length (p.ks.map Value.string)
  cr : CRel B DC p.cf lv (.slice none 0 0) w
  lo : B ≤ pb ∧ B ≤ mb ∧ B ≤ mc ∧ mb ≠ mc
/-- properties at 'pb', not expanded -/
def PG (B pb N : Nat) (p : PSt) (sep : ByteArray) (w : World) : Prop := ∃ mb mc DC lv, PGr B pb mb mc p DC lv true sep w ∧ Maps.size p.D ≤ N ∧ p.ks.length ≤ N ∧ Maps.size DC ≤ N
/-- blocks of other kinds stay -/
def KeepT (w w' : World) : Prop := ∀ (j : Nat) (cs : Array Value) (t : TypeId), w.heap[j]? = some (.cells cs t (0, 0)) → t ≠ 9 → t ≠ 65 → w'.heap[j]? = w.heap[j]?
theorem KeepT.refl (w : World) : KeepT w w := fun _ _ _ _ _ _ => rfl
theorem KeepT.trans {w w1 w2 : World} (h : KeepT w w1) (k : KeepT w1 w2) : KeepT w w2 := fun j cs t h1 h2 h3 => by
  have h4 := h j cs t h1 h2 h3
  exact (k j cs t (h4.trans h1) h2 h3).trans h4
theorem KeepT.of_below {w w' : World} (h : Below w.heap.size w w') : KeepT w w' := fun j cs t h1 _ _ => h.block j (lt_of_block h1)
theorem mpc_size {w : World} {mb n : Nat} {D : DataW Value} (h : MpC w mb n D) : MpC w mb (Maps.size D) D := by
  obtain ⟨es, clock, hb, F, hs, rfl⟩ := h
  exact ⟨es, clock, hb, F, by simp [Maps.size, length_sorted], rfl⟩
theorem map_ne_cells {w : World} {k k' : Nat} {c : Array Value} {u : TypeId} (h1 : ∃ es cl, w.heap[k]? = some (.map es cl)) (h2 : w.heap[k']? = some (.cells c u (0, 0))) : k ≠ k' := fun e => by
  obtain ⟨es, cl, h1⟩ := h1
  rw [e, h2] at h1
  injection h1 with h1
  exact Obj.noConfusion h1
theorem ty_ne {w : World} {k k' : Nat} {c c' : Array Value} {u u' : TypeId} (h1 : w.heap[k]? = some (.cells c u (0, 0))) (h2 : w.heap[k']? = some (.cells c' u' (0, 0))) (h : u ≠ u') : k ≠ k' := fun e => by
  rw [e, h2] at h1
  injection h1 with h1
  injection h1 with _ h1
  exact h h1.symm
theorem PGr.keep {B pb mb mc : Nat} {p : PSt} {DC : DataW Value} {lv : Value} {dis : Bool} {sep : ByteArray} {w w' : World} (h : PGr B pb mb mc p DC lv dis sep w) (h1 : w'.heap[pb]? = w.heap[pb]?) (h2 : w'.heap[mb]? = w.heap[mb]?) (h3 : w'.heap[mc]? = w.heap[mc]?) (h4 : ∀ (g : Nat) (cs : Array Value), w.heap[g]? = some (.cells cs 9 (0, 0)) → w'.heap[g]? = w.heap[g]?) : PGr B pb mb mc p DC lv dis sep w' :=
  ⟨h1.trans h.blk, mp_keep h.mp h2, mpc_keep h.cp h3, row_keep h.row (fun g hg => by obtain ⟨cs, hc⟩ := row_cells h.row hg; exact h4 g cs hc), h.cr.keep (fun g cs hg _ _ => h4 g cs hg) (.inl rfl) (.inl rfl), h.lo⟩
theorem PGr.below {B pb mb mc : Nat} {p : PSt} {DC : DataW Value} {lv : Value} {dis : Bool} {sep : ByteArray} {w w' : World} (h : PGr B pb mb mc p DC lv dis sep w) (hb : Below w.heap.size w w') : PGr B pb mb mc p DC lv dis sep w' :=
  h.keep (hb.block pb (lt_of_block h.blk)) (hb.block mb (map_lt (mp_is h.mp))) (hb.block mc (map_lt (mpc_is h.cp))) (fun g cs hg => hb.block g (lt_of_block hg))
theorem PGr.base {B B' pb mb mc : Nat} {p : PSt} {DC : DataW Value} {lv : Value} {dis : Bool} {sep : ByteArray} {w : World} (h : PGr B pb mb mc p DC lv dis sep w) (hb : B' ≤ B) : PGr B' pb mb mc p DC lv dis sep w :=
  ⟨h.blk, h.mp, h.cp, row_base h.row hb, fun k => ⟨(h.cr k).1, fun l hl => by
    obtain ⟨v, v1, v2, v3, v4⟩ := (h.cr k).2 l hl
    exact ⟨v, v1, v2, row_base v3 hb, v4⟩⟩, Nat.le_trans hb h.lo.1, Nat.le_trans hb h.lo.2.1, Nat.le_trans hb h.lo.2.2.1, h.lo.2.2.2⟩
theorem PG.below {B pb N : Nat} {p : PSt} {sep : ByteArray} {w w' : World} (h : PG B pb N p sep w) (hb : Below w.heap.size w w') : PG B pb N p sep w' := by
  obtain ⟨mb, mc, DC, lv, h, hN⟩ := h
  exact ⟨mb, mc, DC, lv, h.below hb, hN⟩
theorem PG.base {B B' pb N : Nat} {p : PSt} {sep : ByteArray} {w : World} (h : PG B pb N p sep w) (hb : B' ≤ B) : PG B' pb N p sep w := by
  obtain ⟨mb, mc, DC, lv, h, hN⟩ := h
  exact ⟨mb, mc, DC, lv, h.base hb, hN⟩
theorem PG.lt {B pb N : Nat} {p : PSt} {sep : ByteArray} {w : World} (h : PG B pb N p sep w) : B ≤ pb ∧ pb < w.heap.size := by
  obtain ⟨mb, mc, DC, lv, h, _⟩ := h
  exact ⟨h.lo.1, lt_of_block h.blk⟩
/-- another field of the block -/
theorem PGr.reblk {B pb mb mc : Nat} {p : PSt} {DC : DataW Value} {lv : Value} {dis dis' : Bool} {sep sep' : ByteArray} {w w' : World} (h : PGr B pb mb mc p DC lv dis sep w) (hk : ∀ j, j ≠ pb → w'.heap[j]? = w.heap[j]?)
    (hb : w'.heap[pb]? = some (.cells #[.string ⟨#[36, 123]⟩, .string ⟨#[125]⟩, .bool dis', .map (some mb), .map (some mc), lv, .string sep'] 65 (0, 0))) : PGr B pb mb mc p DC lv dis' sep' w' :=
  ⟨hb, mp_keep h.mp (hk mb (map_ne_cells (mp_is h.mp) h.blk)), mpc_keep h.cp (hk mc (map_ne_cells (mpc_is h.cp) h.blk)), row_keep h.row (fun g hg => by obtain ⟨cs, hc⟩ := row_cells h.row hg; exact hk g (ty_ne hc h.blk (by decide))), h.cr.keep (fun g cs hg _ _ => hk g (ty_ne hg h.blk (by decide))) (.inl rfl) (.inl rfl), h.lo⟩
theorem PGr.setDis {B pb mb mc : Nat} {p : PSt} {DC : DataW Value} {lv : Value} {dis dis' : Bool} {sep : ByteArray} {w : World} (h : PGr B pb mb mc p DC lv dis sep w) : PGr B pb mb mc p DC lv dis' sep (w.setCell ⟨pb, 2, none⟩ (.bool dis')) :=
  h.reblk (fun j hj => Below.heap_setCell _ _ _ _ hj) (seven_set h.blk 2)
theorem PGr.setSep {B pb mb mc : Nat} {p : PSt} {DC : DataW Value} {lv : Value} {dis : Bool} {sep sep' : ByteArray} {w : World} (h : PGr B pb mb mc p DC lv dis sep w) : PGr B pb mb mc p DC lv dis sep' (w.setCell ⟨pb, 6, none⟩ (.string sep')) :=
  h.reblk (fun j hj => Below.heap_setCell _ _ _ _ hj) (seven_set h.blk 6)
theorem PGr.lp {B pb mb mc : Nat} {p : PSt} {DC : DataW Value} {lv : Value} {dis : Bool} {w : World} (h : PGr B pb mb mc p DC lv dis ⟨#[]⟩ w) : LP B pb mb mc (Maps.size p.D) (Maps.size DC) p DC lv dis w :=
  ⟨h.blk, h.mp, h.cp, h.row, h.cr, h.lo.1, h.lo.2.1, h.lo.2.2.1⟩
/-- a value is stored -/
theorem PGr.putD {B pb mb mc n : Nat} {p : PSt} {DC : DataW Value} {lv : Value} {dis : Bool} {sep : ByteArray} {w w' : World} (h : PGr B pb mb mc p DC lv dis sep w) (k v : ByteArray) (hm : MpS w' mb n (p.D.put (keyL8 k) (.lit (.string v.data.toList)))) (hg : w.grownBy w' (some mb)) : PGr B pb mb mc (putV p k v) DC lv dis sep w' := by
  have hk : ∀ j, j < w.heap.size → j ≠ mb → w'.heap[j]? = w.heap[j]? := fun j h1 h2 => hg.block j h1 (fun e => h2 (Option.some.inj e))
  have hc : ∀ (g : Nat) (cs : Array Value), w.heap[g]? = some (.cells cs 9 (0, 0)) → w'.heap[g]? = w.heap[g]? := fun g cs h1 => hk g (lt_of_block h1) (fun e => map_ne_cells (mp_is h.mp) h1 e.symm)
  exact ⟨(hk pb (lt_of_block h.blk) (fun e => map_ne_cells (mp_is h.mp) h.blk e.symm)).trans h.blk, mp_size hm, mpc_keep h.cp (hk mc (map_lt (mpc_is h.cp)) (fun e => h.lo.2.2.2 e.symm)), row_keep h.row (fun g hg => by obtain ⟨cs, hcs⟩ := row_cells h.row hg; exact hc g cs hcs), h.cr.keep (fun g cs hg _ _ => hc g cs hg) (.inl rfl) (.inl rfl), h.lo⟩
/-- a key more, and its row stored -/
theorem PGr.addK {B pb mb mc : Nat} {p : PSt} {DC : DataW Value} {lv lv' : Value} {dis : Bool} {sep : ByteArray} {w w' : World} (h : PGr B pb mb mc p DC lv dis sep w) (ks' : List ByteArray)
    (ho : w'.ownsRow B 9 1 lv' ks'.length (ks'.map Value.string)) (hg : w.grownBy w' lv.ownBlock) (hs : lv'.ownBlock = lv.ownBlock ∨ lv'.ownBlock = some w.heap.size ∨ lv'.ownBlock = none) :
    PGr B pb mb mc { p with ks := ks' } DC lv' dis sep (w'.setCell ⟨pb, 5, none⟩ lv') ∧ w'.cell? ⟨pb, 5, none⟩ = some lv ∧ w'.frozen? ⟨pb, 5, none⟩ = false := by
  have hn : ∀ {k : Nat} {c : Array Value} {v : TypeId}, w.heap[k]? = some (.cells c v (0, 0)) → v ≠ 9 → w'.heap[k]? = w.heap[k]? := fun {k c v} h1 h2 => hg.block k (lt_of_block h1) (fun e => by
    obtain ⟨cs, h3⟩ := row_cells h.row e.symm
    exact ty_ne h1 h3 h2 rfl)
  have hm : ∀ {k : Nat}, (∃ es cl, w.heap[k]? = some (.map es cl)) → w'.heap[k]? = w.heap[k]? := fun {k} h1 => hg.block k (map_lt h1) (fun e => by
    obtain ⟨cs, h3⟩ := row_cells h.row e.symm
    exact map_ne_cells h1 h3 rfl)
  have hp := (hn h.blk (by decide)).trans h.blk
  have hst : ∀ {j : Nat}, j ≠ pb → (w'.setCell ⟨pb, 5, none⟩ lv').heap[j]? = w'.heap[j]? := fun hj => Below.heap_setCell _ _ _ _ hj
  have hrw : ∀ {B n : Nat} {v : Value} {xs : List Value}, w'.ownsRow B 9 1 v n xs → (w'.setCell ⟨pb, 5, none⟩ lv').ownsRow B 9 1 v n xs := fun {B n v xs} h1 => row_keep h1 (fun g hg => by obtain ⟨c, hc⟩ := row_cells h1 hg; exact hst (ty_ne hc hp (by decide)))
  have hmp : ∀ {k : Nat}, (∃ es cl, w.heap[k]? = some (.map es cl)) → (w'.setCell ⟨pb, 5, none⟩ lv').heap[k]? = w.heap[k]? := fun {k} h1 => (hst (map_ne_cells h1 h.blk)).trans (hm h1)
  have hc1 : CRel B DC p.cf lv' (.slice none 0 0) w' := h.cr.keep (fun g cs hcs h1 _ => hg.block g (lt_of_block hcs) (fun e => h1 e.symm)) (by
    rcases hs with e | e | e
    · exact .inl e
    · exact .inr (fun g h9 => by rw [e] at h9; obtain rfl := Option.some.inj h9; exact Nat.le_refl _)
    · exact .inr (fun g h9 => by rw [e] at h9; cases h9)) (.inl rfl)
  have hc2 : CRel B DC p.cf lv' (.slice none 0 0) (w'.setCell ⟨pb, 5, none⟩ lv') := hc1.keep (fun g cs hcs _ _ => hst (ty_ne hcs hp (by decide))) (.inl rfl) (.inl rfl)
  refine ⟨⟨seven_set hp 5, mp_keep h.mp (hmp (mp_is h.mp)), mpc_keep h.cp (hmp (mpc_is h.cp)), hrw ho, hc2, h.lo⟩, ?_, ?_⟩
  · simp [World.cell?, hp]
  · simp [World.frozen?, hp]
/-- comments are stored -/
theorem PGr.putC {B pb mb mc n : Nat} {p : PSt} {DC : DataW Value} {lv cmv : Value} {dis : Bool} {sep : ByteArray} {w w' : World} (h : PGr B pb mb mc p DC lv dis sep w) (k : ByteArray) (cm : List ByteArray) (hcr : CRel B DC p.cf lv cmv w) (hrow : w.ownsRow B 9 1 cmv cm.length (cm.map Value.string)) (hne : ∀ g, cmv.ownBlock = some g → lv.ownBlock ≠ some g)
    (hm : MpC w' mc n (DC.put (keyL8 k) (.held cmv))) (hg : w.grownBy w' (some mc)) : PGr B pb mb mc { p with cf := updC p.cf k cm } (DC.put (keyL8 k) (.held cmv)) lv dis sep w' := by
  have hk : ∀ j, j < w.heap.size → j ≠ mc → w'.heap[j]? = w.heap[j]? := fun j h1 h2 => hg.block j h1 (fun e => h2 (Option.some.inj e))
  have hc : ∀ (g : Nat) (cs : Array Value), w.heap[g]? = some (.cells cs 9 (0, 0)) → w'.heap[g]? = w.heap[g]? := fun g cs h1 => hk g (lt_of_block h1) (fun e => map_ne_cells (mpc_is h.cp) h1 e.symm)
  exact ⟨(hk pb (lt_of_block h.blk) (fun e => map_ne_cells (mpc_is h.cp) h.blk e.symm)).trans h.blk, mp_keep h.mp (hk mb (map_lt (mp_is h.mp)) h.lo.2.2.2), mpc_size hm, row_keep h.row (fun g hg => by obtain ⟨cs, hcs⟩ := row_cells h.row hg; exact hc g cs hcs), hcr.store h.cp hrow hne hc (fun g e => by cases e), h.lo⟩
def NewG (w : World) (e : Ending) (w' : World) : Prop := ∃ pb mb mc lv, e = .returned (.pointer (some ⟨pb, 0, none⟩)) ∧ PGr w.heap.size pb mb mc pst0 (.map []) lv false ⟨#[]⟩ w' ∧ Below w.heap.size w w'
theorem newG_any (w : World) : Calls Tryz.prog 28 #[] w (NewG w) :=
  (newPQ_any w).mono (by
    rintro e w' ⟨pb, mb, mc, lv, rfl, h, hb⟩
    exact ⟨pb, mb, mc, lv, rfl, ⟨h.blk, mp_size h.mp, mpc_size h.cp, h.row, CRel.zero _ _ _ _, h.lo⟩, hb⟩)
set_option maxRecDepth 100000 in
/-- a look-up -/
theorem getM_any (pb mb n : Nat) (D : DataW Unit) (k : ByteArray) (w : World) (c2 : w.cell? ⟨pb, 2, none⟩ = some (.bool true)) (c3 : w.cell? ⟨pb, 3, none⟩ = some (.map (some mb))) (hm : MpS w mb n D) (hk : k.size ≤ 2147483647) :
    Calls Tryz.prog 52 #[.pointer (some ⟨pb, 0, none⟩), .string k] w fun e w' => e = .returned (.tuple #[.string (rawOf D k), .bool (Maps.has D (keyL8 k))]) ∧ w = w' := by
  have HM := Lib.hid hm
  have hkm : k.size ≤ maxLen := by unfold maxLen; omega
  clear hm
  go_enter Tryz.func52, Tryz.ntmps52
  go_wp2_with (at_lookup; refine wpList_lookup_own_ok _ rfl _ _ 62 rfl 9 9 lawS Tryz.underlying62 (plainElem Tryz.prog 9) (zeroS _) (.lit (.string [])) [] (plainElem_string Tryz.underlying9 (by unfold maxLen; decide)) mb n D rfl HM.out _ _ rfl (WideMaps.keyOf_string_mk Tryz.underlying9 hkm) ?_)
  intro v ps hv
  obtain ⟨s, rfl, hz, hs⟩ := plainElem_string_inv Tryz.underlying9 hv
  have HZ := Lib.hid (congrArg Prod.fst hz)
  clear hv hz
  generalize hg : Maps.has D (.string k.data.toList) = hb
  have HG := Lib.hid hg
  clear hg
  go_wp2
  go_ret2
  have e1 : rawOf D k = s := rawOf_of HZ.out
  have e2 : Maps.has D (keyL8 k) = hb := HG.out
  rw [e1, e2]
  exact ⟨rfl, rfl⟩
theorem putV_addK_D (p : PSt) (k v : ByteArray) : (putV (addK p k) k v).D = p.D.put (.string k.data.toList) (.lit (.string v.data.toList)) := by
  unfold putV addK
  split <;> rfl
def SetG (B pb N : Nat) (p : PSt) (sep k v : ByteArray) (w : World) (e : Ending) (w' : World) : Prop :=
  (∃ (pv : ByteArray) (b : Bool), e = .returned (.tuple #[.string pv, .bool b, .nilIface])) ∧ PG B pb (N + 1) (putV (addK p k) k v) sep w' ∧ Below B w w' ∧ KeepT w w'
set_option maxHeartbeats 4000000 in
set_option maxRecDepth 100000 in
/-- a pair is set -/
theorem setG_any (B pb N : Nat) (p : PSt) (sep k v : ByteArray) (w : World) (h : PG B pb N p sep w) (hN : N ≤ 10000000) (hk0 : ¬ k.size = 0) (hk : k.size ≤ 2147483647) (hv : v.size ≤ 2147483647) :
    Calls Tryz.prog 51 #[.pointer (some ⟨pb, 0, none⟩), .string k, .string v] w (SetG B pb N p sep k v w) := by
  obtain ⟨mb, mc, DC, lv, h, hn, hks, hdc⟩ := h
  unfold SetG
  obtain ⟨i0, hi, hz0, hz1, hz2⟩ := info_parts infoStr
  obtain ⟨c2, c3, c5, c6, f2, f5, f6⟩ := seven_cells h.blk
  have hkm : k.size ≤ maxLen := by unfold maxLen; omega
  have hvm : v.size ≤ maxLen := by unfold maxLen; omega
  have hke : k.toList.isEmpty = false := by
    rw [ByteArray.toList_eq]
    cases h9 : k.data.toList with
    | nil => exact absurd (by rw [Lib.size_eq, h9]; rfl) hk0
    | cons a l => rfl
  have HG := Lib.hid (getM_any pb mb _ p.D k w c2 c3 h.mp hk)
  have HQ := Lib.hid h
  obtain ⟨hb, hhb⟩ : ∃ b, Maps.has p.D (keyL8 k) = b := ⟨_, rfl⟩
  rw [hhb] at HG
  have HHB := Lib.hid hhb
  clear h hhb hk0
  have hBw : B ≤ w.heap.size := Nat.le_trans HQ.out.lo.1 (Nat.le_of_lt (lt_of_block HQ.out.blk))
  cases hb with
  | true =>
    go_enter Tryz.func51, Tryz.ntmps51
    go_wp2_with (go_at_call 52; with_reducible refine HG.out.mono ?_)
    rintro e w1 ⟨rfl, rfl⟩
    dsimp only
    go_wp2_with (at_mapUpdate; refine wpList_mapUpdate_own _ rfl _ _ _ 62 rfl 9 9 lawS Tryz.underlying62 (plainElem Tryz.prog 9) mb _ p.D rfl HQ.out.mp (by unfold maxLen; omega) _ _ _ rfl rfl (WideMaps.keyOf_string_mk Tryz.underlying9 hkm) _ [] (plainElem_string Tryz.underlying9 hvm) ?_)
    intro W1 hown1 hgrow1
    have HO := Lib.hid (HQ.out.putD k v hown1 hgrow1)
    have HGW := Lib.hid hgrow1
    have hsd := size_le_own hown1
    clear hown1 hgrow1
    go_wp2
    go_ret3
    refine ⟨⟨_, _, rfl⟩, ⟨mb, mc, DC, lv, ?_, by rw [putV_addK_D]; omega, ?_, by omega⟩, (Below.refl B _).grown HGW.out hBw (fun j hj => by have h9 : mb = j := Option.some.inj hj; have := HQ.out.lo.2.1; omega), fun j cs t h1 h2 h3 => HGW.out.block j (lt_of_block h1) (fun e => map_ne_cells (mp_is HQ.out.mp) h1 (Option.some.inj e).symm)⟩
    · have e : addK p k = p := by unfold addK; rw [if_pos HHB.out]
      rw [e]
      exact HO.out
    · have e : addK p k = p := by unfold addK; rw [if_pos HHB.out]
      rw [e]
      show p.ks.length ≤ _
      omega
  | false =>
    go_enter Tryz.func51, Tryz.ntmps51
    go_wp2_with (go_at_call 52; with_reducible refine HG.out.mono ?_)
    rintro e w1 ⟨rfl, rfl⟩
    dsimp only
    go_wp2_with (at_mapUpdate; refine wpList_mapUpdate_own _ rfl _ _ _ 62 rfl 9 9 lawS Tryz.underlying62 (plainElem Tryz.prog 9) mb _ p.D rfl HQ.out.mp (by unfold maxLen; omega) _ _ _ rfl rfl (WideMaps.keyOf_string_mk Tryz.underlying9 hkm) _ [] (plainElem_string Tryz.underlying9 hvm) ?_)
    intro W1 hown1 hgrow1
    have HO := Lib.hid (HQ.out.putD k v hown1 hgrow1)
    have HGW := Lib.hid hgrow1
    have hsd := size_le_own hown1
    obtain ⟨d2, d3, d5, d6, z2, z5, z6⟩ := seven_cells HO.out.blk
    have hBW : B ≤ W1.heap.size := Nat.le_trans hBw hgrow1.size
    clear hown1 hgrow1 c2 c3 c5 c6 f2 f5 f6
    go_wp2_with (at_builtin; refine wpList_append_own_at _ rfl _ _ 32 rfl B 9 i0 (.string ⟨#[]⟩) 1 16 Tryz.underlying32 hi hz0 hz1 hz2 rfl (by decide) lv p.ks.length (p.ks.map Value.string) rfl (HO.out.row.alloc _) ⟨W1.heap.size, 0, none⟩ 1 1 [.string k] rfl rfl (cell_one_new _ _ _) (by intro u hu; simp at hu; subst hu; rfl) (by unfold maxLen; omega) (by omega) (by simp; omega) ?_)
    intro v' w2 hown2 hgr _ hsh
    obtain ⟨g9, cap9, rfl⟩ := row_sl hown2
    have HOA := Lib.hid (PGr.below HO.out ((Below.refl _ W1).alloc (Nat.le_refl _) (.cells #[.string k] 9)))
    obtain ⟨q1, q2, q3⟩ := HOA.out.addK (p.ks ++ [k]) (by simpa using hown2) hgr (hsh.imp id (fun e => .inl (by rw [e]; simp)))
    have HQ1 := Lib.hid q1
    have HGR := Lib.hid hgr
    clear hown2 hgr hsh q1 d2 d3 d5 d6 z2 z5 z6
    go_wp2
    go_ret3
    have hlvB : ∀ g, lv.ownBlock = some g → B ≤ g := fun g hg => (row_lt HO.out.row hg).1
    have hb1 : Below B w W1 := (Below.refl B _).grown HGW.out hBw (fun j hj => by have h9 : mb = j := Option.some.inj hj; have := HQ.out.lo.2.1; omega)
    refine ⟨⟨_, _, rfl⟩, ⟨mb, mc, DC, .slice (some ⟨g9, 0, none⟩) (p.ks.length + 1) cap9, ?_, by rw [putV_addK_D]; omega, ?_, by omega⟩, ((hb1.alloc hBW _).grown HGR.out (by simp; omega) hlvB).setCell HQ.out.lo.1 _, fun j cs t h1 h2 h3 => ?_⟩
    · have e : putV (addK p k) k v = { putV p k v with ks := p.ks ++ [k] } := by unfold addK putV; rw [if_neg (by rw [HHB.out]; simp)]
      rw [e]
      exact HQ1.out
    · have e : putV (addK p k) k v = { putV p k v with ks := p.ks ++ [k] } := by unfold addK putV; rw [if_neg (by rw [HHB.out]; simp)]
      rw [e]
      show (p.ks ++ [k]).length ≤ _
      simp
      omega
    · have k1 : W1.heap[j]? = w.heap[j]? := HGW.out.block j (lt_of_block h1) (fun e => map_ne_cells (mp_is HQ.out.mp) h1 (Option.some.inj e).symm)
      have k2 : (W1.alloc (.cells #[.string k] 9)).heap[j]? = W1.heap[j]? := Below.heap_alloc W1 _ _ (lt_of_block (k1.trans h1))
      have k3 : w2.heap[j]? = (W1.alloc (.cells #[.string k] 9)).heap[j]? := HGR.out.block j (by simp; have := lt_of_block (k1.trans h1); omega) (fun e => by
        obtain ⟨cs', h9⟩ := row_cells HO.out.row e.symm
        exact ty_ne (k1.trans h1) h9 h2 rfl)
      exact (Below.heap_setCell _ _ _ _ (ty_ne h1 HQ.out.blk h3)).trans (k3.trans (k2.trans k1))
def SetC (B pb N : Nat) (p : PSt) (sep k : ByteArray) (cm : List ByteArray) (w : World) (e : Ending) (w' : World) : Prop :=
  e = .returned (.tuple #[]) ∧ PG B pb (N + 1) { p with cf := updC p.cf k cm } sep w' ∧ Below B w w' ∧ KeepT w w'
set_option maxHeartbeats 4000000 in
set_option maxRecDepth 100000 in
/-- comments are set -/
theorem setC_any (B pb mb mc N : Nat) (p : PSt) (DC : DataW Value) (lv : Value) (sep k : ByteArray) (cm : List ByteArray) (g c : Nat) (w : World) (h : PGr B pb mb mc p DC lv true sep w) (hd : Maps.size p.D ≤ N) (hks : p.ks.length ≤ N) (hn : Maps.size DC ≤ N) (hN : N ≤ 10000000) (hk : k.size ≤ 2147483647)
    (hcr : CRel B DC p.cf lv (.slice (some ⟨g, 0, none⟩) cm.length c) w) (hrow : w.ownsRow B 9 1 (.slice (some ⟨g, 0, none⟩) cm.length c) cm.length (cm.map Value.string)) (hne : lv.ownBlock ≠ some g) :
    Calls Tryz.prog 71 #[.pointer (some ⟨pb, 0, none⟩), .string k, .slice (some ⟨g, 0, none⟩) cm.length c] w (SetC B pb N p sep k cm w) := by
  unfold SetC
  have hkm : k.size ≤ maxLen := by unfold maxLen; omega
  have c4 : w.cell? ⟨pb, 4, none⟩ = some (.map (some mc)) := by
    have hb := h.blk
    simp [World.cell?, hb]
  have HQ := Lib.hid h
  have HCR := Lib.hid hcr
  have HRW := Lib.hid hrow
  have HNE := Lib.hid hne
  obtain ⟨N2, hN2⟩ : ∃ N, cm.length = N := ⟨_, rfl⟩
  have HN := Lib.hid hN2
  rw [hN2] at HCR HRW ⊢
  have hBw : B ≤ w.heap.size := Nat.le_trans HQ.out.lo.1 (Nat.le_of_lt (lt_of_block HQ.out.blk))
  have hnl := Lib.run_eql_slice_nil (P := Tryz.prog) w 32 9 (some ⟨g, 0, none⟩) N2 c 0 0 Tryz.underlying32
  clear h hcr hrow hne hN2
  go_enter Tryz.func71, Tryz.ntmps71
  go_wp2_with (at_mapUpdate; refine wpList_mapUpdate_own _ rfl _ _ _ 63 rfl 9 32 lawS Tryz.underlying63 rawR mc _ DC rfl HQ.out.cp (by unfold maxLen; omega) _ _ _ rfl rfl (WideMaps.keyOf_string_mk Tryz.underlying9 hkm) _ [] rfl ?_)
  intro W1 hown1 hgrow1
  have HO := Lib.hid (HQ.out.putC (cmv := .slice (some ⟨g, 0, none⟩) N2 c) k cm HCR.out (by rw [HN.out]; exact HRW.out) (fun g' hg' => by injection hg' with hg'; subst hg'; exact HNE.out) hown1 hgrow1)
  have HGW := Lib.hid hgrow1
  have hsd : Maps.size (DC.put (.string k.data.toList) (.held (.slice (some ⟨g, 0, none⟩) N2 c))) ≤ Maps.size DC + 1 := hown1.size_le
  clear hown1 hgrow1
  go_wp2
  go_end0
  refine ⟨rfl, ⟨mb, mc, _, lv, HO.out, by show Maps.size p.D ≤ _; omega, by show p.ks.length ≤ _; omega, ?_⟩, (Below.refl B _).grown HGW.out hBw (fun j hj => by have h9 : mc = j := Option.some.inj hj; have := HQ.out.lo.2.2.1; omega), fun j cs t h1 h2 h3 => HGW.out.block j (lt_of_block h1) (fun e => map_ne_cells (mpc_is HQ.out.cp) h1 (Option.some.inj e).symm)⟩
  show Maps.size (DC.put (.string k.data.toList) _) ≤ _
  omega
end Go.Proofs.YtgmhigjhooihdaaGreatDoor
