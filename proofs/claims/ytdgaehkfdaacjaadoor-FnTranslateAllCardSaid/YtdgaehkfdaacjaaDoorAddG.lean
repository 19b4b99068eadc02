/- The walk of addRuneRange. -/
import Derived.Test.YtdgaehkfdaacjaaDoorAddR
import Derived.Deep.LoopGhost
set_option linter.unusedVariables false
namespace Go.Proofs.YtdgaehkfdaacjaaDoor
open Go.RowKit Plain Go.Maps

def clr (d : TD) (lo hi : Int) (k : Nat) : TD := ⟨fun r => if r ∈ d.sg.take k ∧ lo ≤ r ∧ r ≤ hi then none else d.S r, d.R, d.sg⟩
def cut1 (d : TD) (a : Int) : TD := ⟨fun r => if r = a then none else d.S r, d.R, d.sg⟩
theorem clr_zero (d : TD) (lo hi : Int) : clr d lo hi 0 = d := by simp [clr]
theorem mem_take1 (l : List Int) (k : Nat) (hk : k < l.length) (x : Int) : x ∈ l.take (k + 1) ↔ x ∈ l.take k ∨ x = l[k] := by
  rw [List.take_succ_eq_append_getElem hk, List.mem_append, List.mem_singleton]
theorem clr_in (d : TD) (lo hi : Int) (k : Nat) {r : Int} (hr : d.sg[k]? = some r) (h1 : lo ≤ r) (h2 : r ≤ hi) : clr d lo hi (k + 1) = cut1 (clr d lo hi k) r := by
  obtain ⟨hk, e⟩ := List.getElem?_eq_some_iff.1 hr
  simp only [clr, cut1]
  congr 1
  funext x
  have hm := mem_take1 d.sg k hk x
  rw [e] at hm
  by_cases ex : x = r
  · subst ex
    rw [if_pos ⟨hm.2 (.inr rfl), h1, h2⟩, if_pos rfl]
  · rw [if_neg ex]
    by_cases hx : x ∈ d.sg.take k ∧ lo ≤ x ∧ x ≤ hi
    · rw [if_pos hx, if_pos ⟨hm.2 (.inl hx.1), hx.2⟩]
    · rw [if_neg hx, if_neg (fun y => hx ⟨(hm.1 y.1).resolve_right ex, y.2⟩)]
theorem clr_out (d : TD) (lo hi : Int) (k : Nat) {r : Int} (hr : d.sg[k]? = some r) (h : ¬ (lo ≤ r ∧ r ≤ hi)) : clr d lo hi (k + 1) = clr d lo hi k := by
  obtain ⟨hk, e⟩ := List.getElem?_eq_some_iff.1 hr
  simp only [clr]
  congr 1
  funext x
  have hm := mem_take1 d.sg k hk x
  rw [e] at hm
  by_cases hx : x ∈ d.sg.take k ∧ lo ≤ x ∧ x ≤ hi
  · rw [if_pos hx, if_pos ⟨hm.2 (.inl hx.1), hx.2⟩]
  · rw [if_neg hx, if_neg (fun y => by
      rcases hm.1 y.1 with z | z
      · exact hx ⟨z, y.2⟩
      · subst z; exact h y.2)]
theorem clr_all (d : TD) (a b c e : Int) : (⟨(clr d (rng a b c e).1 (rng a b c e).2.1 d.sg.length).S, d.R ++ [rng a b c e], d.sg⟩ : TD) = putR d a b c e := by
  simp [clr, putR]
section
variable {base b : Nat} {vs : Value} {d : TD} {fl : Int × Bool × Bool × Bool} {vq vm vr : Value} {w w' : World}
theorem TrQ.cutQ {qb a : Nat} (h : TrQ base b vs d fl (.pointer (some ⟨qb, 0, none⟩)) vm vr w) (ha : a < 128) :
    TrQ base b vs (cut1 d a) fl (.pointer (some ⟨qb, 0, none⟩)) vm vr ((w.setCell ⟨qb, a, none⟩ (.int .i32 0)).setCell ⟨qb, 128 + a, none⟩ (.bool false)) ∧ Keep (fun j => j ≠ qb) w ((w.setCell ⟨qb, a, none⟩ (.int .i32 0)).setCell ⟨qb, 128 + a, none⟩ (.bool false)) := by
  have hlo := h.lo
  obtain ⟨qb', hq1, hq2, hq3⟩ : ∃ qb', Value.pointer (some ⟨qb, 0, none⟩) = .pointer (some ⟨qb', 0, none⟩) ∧ base ≤ qb' ∧ QuickIs qb' d.S w := by
    rcases h.q with ⟨h1, _⟩ | h1
    · cases h1
    · exact h1
  obtain rfl : qb = qb' := by injection hq1 with e; injection e with e; injection e
  obtain ⟨cs, k1, k2, k3⟩ := hq3
  have hbs : w.heap[b]? = some (.cells #[.pointer (some ⟨qb, 0, none⟩), vm, vr, .int .i32 fl.1, .bool fl.2.1, .bool fl.2.2.1, .bool fl.2.2.2] 58 (0, 0)) := h.blk
  have hqlt := lt_of_block k1
  have hk : Keep (fun j => j ≠ qb) w ((w.setCell ⟨qb, a, none⟩ (.int .i32 0)).setCell ⟨qb, 128 + a, none⟩ (.bool false)) := ((Keep.refl _ _).setCell (by simp) _).setCell (by simp) _
  have hq' : ((w.setCell ⟨qb, a, none⟩ (.int .i32 0)).setCell ⟨qb, 128 + a, none⟩ (.bool false)).heap[qb]? = some (.cells ((cs.setIfInBounds a (.int .i32 0)).setIfInBounds (128 + a) (.bool false)) 87 (0, 0)) := by
    simp [World.setCell, Array.getElem?_modify, k1]
  refine ⟨⟨hlo, Nat.le_trans h.hi hk.size, (hk.block b (lt_of_block hbs) (by omega)).trans hbs, .inr ⟨qb, rfl, hq2, ⟨_, hq', by simp [k2], fun r hr => ?_⟩⟩, ?_, ?_, ?_, h.bd⟩, hk⟩
  · have e := k3 r hr
    by_cases hra : r = a
    · subst hra
      simp only [cut1, if_true, Option.getD_none, Option.isSome_none]
      constructor
      · rw [Array.getElem?_setIfInBounds_ne (by omega), Array.getElem?_setIfInBounds_self_of_lt (by omega)]
      · rw [Array.getElem?_setIfInBounds_self_of_lt (by simp; omega)]
    · have hri : ¬ (r : Int) = (a : Int) := by omega
      simp only [cut1, if_neg hri]
      constructor
      · rw [Array.getElem?_setIfInBounds_ne (by omega), Array.getElem?_setIfInBounds_ne (by omega)]
        exact e.1
      · rw [Array.getElem?_setIfInBounds_ne (by omega), Array.getElem?_setIfInBounds_ne (by omega)]
        exact e.2
  · rcases h.m with ⟨h1, h2, h3⟩ | ⟨mb, h1, h2, h3⟩
    · refine .inl ⟨h1, fun r hr1 hr2 => ?_, h3⟩
      simp only [cut1]
      rw [if_neg (by omega)]
      exact h2 r hr1 hr2
    · have hM := h3.isM
      refine .inr ⟨mb, h1, h2, (h3.keep (hk.block mb (by obtain ⟨_, _, e⟩ := hM; exact lt_of_block e) (Ne.symm (is_neM ⟨cs, k1⟩ hM)))).same fun r h4 h5 => ?_⟩
      simp only [cut1]
      rw [if_neg (by omega)]
  · exact h.rKeep fun g hg1 hi => hk.block g (by rcases hi with ⟨cs, hi⟩ | ⟨cs, hi⟩ <;> exact lt_of_block hi) (by rcases hi with hi | hi; exact is_ne hi ⟨cs, k1⟩ (by decide); exact is_ne hi ⟨cs, k1⟩ (by decide))
  · exact row_keep h.s fun g hg => hk.block g (by obtain ⟨_, _, e⟩ := row_is h.s hg; exact lt_of_block e) (is_ne (row_is h.s hg).2 ⟨cs, k1⟩ (by decide))
theorem TrQ.cutM {mb : Nat} {a : Int} (h : TrQ base b vs d fl vq (.map (some mb)) vr w) (ha : 127 < a)
    (hm : MapIs mb d.sg.length (fun r => if r = a then none else d.S r) w') (hg : w.grownBy w' (some mb)) :
    TrQ base b vs (cut1 d a) fl vq (.map (some mb)) vr w' ∧ Keep (fun j => j ≠ mb) w w' := by
  have hlo := h.lo
  obtain ⟨mb', hq1, hq2, hq3⟩ : ∃ mb', Value.map (some mb) = .map (some mb') ∧ base ≤ mb' ∧ MapIs mb' d.sg.length d.S w := by
    rcases h.m with ⟨h1, _⟩ | h1
    · cases h1
    · exact h1
  obtain rfl : mb = mb' := by injection hq1 with e; injection e
  have hM := hq3.isM
  have hk : Keep (fun j => j ≠ mb) w w' := (Keep.refl _ w).grown hg (fun k e => by injection e with e; subst e; simp)
  refine ⟨⟨hlo, Nat.le_trans h.hi hk.size, (hk.block b (lt_of_block h.blk) (by omega)).trans h.blk, ?_, .inr ⟨mb, rfl, hq2, hm⟩, ?_, ?_, h.bd⟩, hk⟩
  · rcases h.q with ⟨h1, h2, h3⟩ | ⟨qb, h1, h2, h3⟩
    · refine .inl ⟨h1, fun r hr1 => ?_, h3⟩
      simp only [cut1]
      rw [if_neg (by omega)]
      exact h2 r hr1
    · have hQ : ∃ cs, w.heap[qb]? = some (.cells cs 87 (0, 0)) := by obtain ⟨cs, e, _⟩ := h3; exact ⟨cs, e⟩
      refine .inr ⟨qb, h1, h2, (h3.keep (hk.block qb h3.lt (is_neM hQ hM))).same fun r h4 => ?_⟩
      simp only [cut1]
      rw [if_neg (by omega)]
  · exact h.rKeep fun g hg1 hi => hk.block g (by rcases hi with ⟨cs, hi⟩ | ⟨cs, hi⟩ <;> exact lt_of_block hi) (by rcases hi with hi | hi; exact is_neM hi hM; exact is_neM hi hM)
  · exact row_keep h.s fun g hg => hk.block g (by obtain ⟨_, _, e⟩ := row_is h.s hg; exact lt_of_block e) (is_neM (row_is h.s hg).2 hM)
/-- a range is put in -/
theorem TrQ.putG {xs : List Value} {g : Nat} {x : Int × Int × Int × Int} {vr' : Value} {w2 : World} (h : TrQ base b vs d fl vq vm vr w) (hx : RngIs g x w) (hg0 : base ≤ g)
    (hown : w2.ownsRow base 88 1 vr' (d.R.length + 1) (xs ++ [.pointer (some ⟨g, 0, none⟩)])) (gs : List Nat) (hgs : gs.length = d.R.length) (hxs : xs = gs.map fun g => .pointer (some ⟨g, 0, none⟩))
    (hgr : ∀ (i g : Nat) (x : Int × Int × Int × Int), gs[i]? = some g → d.R[i]? = some x → base ≤ g ∧ RngIs g x w) (hvr : ∀ j, vr.ownBlock = some j → base ≤ j ∧ ∃ cs, w.heap[j]? = some (.cells cs 88 (0, 0)))
    (hg : (w.alloc (.cells #[.pointer (some ⟨g, 0, none⟩)] 88)).grownBy w2 vr.ownBlock) :
    TrQ base b vs ⟨d.S, d.R ++ [x], d.sg⟩ fl vq vm vr' (w2.setCell ⟨b, 2, none⟩ vr') ∧ Keep (fun j => j < base ∧ j ≠ b) w (w2.setCell ⟨b, 2, none⟩ vr') := by
  have hlo := h.lo
  have hsz : w.heap.size ≤ w2.heap.size := by have := hg.size; simp at this; omega
  have hk : ∀ j, j < w.heap.size → vr.ownBlock ≠ some j → w2.heap[j]? = w.heap[j]? := fun j hl hv => by
    rw [hg.block j (by simp; omega) (fun e => hv e.symm), Below.heap_alloc _ _ _ hl]
  have hk' : ∀ j, j < w.heap.size → vr.ownBlock ≠ some j → j ≠ b → (w2.setCell ⟨b, 2, none⟩ vr').heap[j]? = w.heap[j]? := fun j hl hv hb => (Below.heap_setCell _ _ _ _ hb).trans (hk j hl hv)
  have hs' : (w2.setCell ⟨b, 2, none⟩ vr').heap.size = w2.heap.size := by simp [World.setCell]
  have hvb : vr.ownBlock ≠ some b := fun e => by have := (hvr b e).1; omega
  refine ⟨⟨hlo, by have := h.hi; omega, ?_, ?_, ?_, ⟨gs ++ [g], by simp [hgs], ?_, ?_⟩, ?_, h.bd⟩, ⟨hg.os, hg.tape, hg.output, by omega, fun j hj hjb => hk' j hj (fun e => by have := (hvr j e).1; omega) hjb.2⟩⟩
  · have e := (hk b (lt_of_block h.blk) hvb).trans h.blk
    simp only [World.setCell, Array.getElem?_modify, if_true, e, Option.map_some]
    rfl
  · rcases h.q with h1 | ⟨qb, h1, h2, h3⟩
    · exact .inl h1
    · have hQ : ∃ cs, w.heap[qb]? = some (.cells cs 87 (0, 0)) := by obtain ⟨cs, e, _⟩ := h3; exact ⟨cs, e⟩
      exact .inr ⟨qb, h1, h2, h3.keep (hk' qb h3.lt (fun e => is_ne (hvr qb e).2 hQ (by decide) rfl) (by omega))⟩
  · rcases h.m with h1 | ⟨mb, h1, h2, h3⟩
    · exact .inl h1
    · have hM := h3.isM
      exact .inr ⟨mb, h1, h2, h3.keep (hk' mb (by obtain ⟨_, _, e⟩ := hM; exact lt_of_block e) (fun e => is_neM (hvr mb e).2 hM rfl) (by omega))⟩
  · intro i j y hi hy
    rcases Nat.lt_trichotomy i d.R.length with hlt | heq | hgt
    · rw [List.getElem?_append_left (by omega)] at hi
      rw [List.getElem?_append_left hlt] at hy
      obtain ⟨e1, e2⟩ := hgr i j y hi hy
      have e2' : w.heap[j]? = some (.cells #[.int .i32 y.1, .int .i32 y.2.1, .int .i32 y.2.2.1, .int .i32 y.2.2.2] 90 (0, 0)) := e2
      exact ⟨e1, (hk' j (lt_of_block e2') (fun e => is_ne (hvr j e).2 ⟨_, e2'⟩ (by decide) rfl) (by omega)).trans e2'⟩
    · subst heq
      rw [← hgs, List.getElem?_append_right (Nat.le_refl _), Nat.sub_self] at hi
      rw [List.getElem?_append_right (Nat.le_refl _), Nat.sub_self] at hy
      simp at hi hy
      subst hi
      subst hy
      have hx' : w.heap[g]? = some (.cells #[.int .i32 x.1, .int .i32 x.2.1, .int .i32 x.2.2.1, .int .i32 x.2.2.2] 90 (0, 0)) := hx
      exact ⟨hg0, (hk' g (lt_of_block hx') (fun e => is_ne (hvr g e).2 ⟨_, hx'⟩ (by decide) rfl) (by omega)).trans hx'⟩
    · rw [List.getElem?_eq_none (by simp; omega)] at hy
      cases hy
  · rw [List.map_append, ← hxs, List.length_append]
    refine row_keep hown fun j hj => Below.heap_setCell _ _ _ _ ?_
    have := (row_is hown hj).1
    show j ≠ b
    omega
  · exact row_keep h.s fun j hj => hk' j (by obtain ⟨_, _, e⟩ := row_is h.s hj; exact lt_of_block e) (fun e => is_ne (hvr j e).2 (row_is h.s hj).2 (by decide) rfl) (by have := (row_is h.s hj).1; omega)
end

theorem infoR : (Tryd.prog.info? 88).map (fun i => (i.zero, i.size, i.bytes)) = some (some (.pointer none), 1, 8) := by kernel_rfl
def AddGPost (base b : Nat) (vs : Value) (d : TD) (fl : Int × Bool × Bool × Bool) (r1 r2 : Int) (w : World) (e : Ending) (w' : World) : Prop :=
  e = .returned (.tuple #[.int .i32 r1, .int .i32 r2]) ∧ ∃ vq vm vr, TrQ base b vs d fl vq vm vr w' ∧ Keep (fun j => j < base ∧ j ≠ b) w w'
theorem rng_one (w : World) (x : Int × Int × Int × Int) : RngIs w.heap.size x (w.alloc (.cells #[.int .i32 x.1, .int .i32 x.2.1, .int .i32 x.2.2.1, .int .i32 x.2.2.2] 90)) := heap_alloc_new w _
theorem RngIs.cells {g : Nat} {x : Int × Int × Int × Int} {w : World} (h : RngIs g x w) : w.cell? ⟨g, 0, none⟩ = some (.int .i32 x.1) ∧ w.cell? ⟨g, 1, none⟩ = some (.int .i32 x.2.1) ∧ g < w.heap.size := by
  have h' : w.heap[g]? = some (.cells #[.int .i32 x.1, .int .i32 x.2.1, .int .i32 x.2.2.1, .int .i32 x.2.2.2] 90 (0, 0)) := h
  exact ⟨by simp [World.cell?, h'], by simp [World.cell?, h'], lt_of_block h'⟩
theorem RngIs.keep {g : Nat} {x : Int × Int × Int × Int} {w w' : World} {p : Nat → Prop} (h : RngIs g x w) (k : Keep p w w') (hp : p g) : RngIs g x w' := (k.block g h.cells.2.2 hp).trans h

set_option maxHeartbeats 4000000 in
set_option maxRecDepth 100000 in
theorem addG_up (base b : Nat) (A : Option Addr) (cap : Nat) (d : TD) (fl : Int × Bool × Bool × Bool) (vq vm vr : Value) (w : World) (hTr : TrQ base b (.slice A d.sg.length cap) d fl vq vm vr w) (hA : 0 < d.sg.length → ∃ g0, A = some ⟨g0, 0, none⟩)
    (a a2 c c2 : Int) (haa : a < a2) (hl1 : d.sg.length ≤ 10000000000) (hl2 : d.R.length ≤ 10000000000) :
    Calls Tryd.prog 43 #[.pointer (some ⟨b, 0, none⟩), .int .i32 a, .int .i32 a2, .int .i32 c, .int .i32 c2, .slice A d.sg.length cap] w (AddGPost base b (.slice A d.sg.length cap) (putR d a a2 c c2) fl a2 c2 w) := by
  obtain ⟨i0, hi, hz0, hz1, hz2⟩ := info_parts infoR
  have hrng : rng a a2 c c2 = (a, a2, c, c2) := by unfold rng; rw [if_pos haa]
  have HRNG := Lib.hid hrng
  obtain ⟨g, hg⟩ : ∃ g, w.heap.size = g := ⟨_, rfl⟩
  obtain ⟨W, hW⟩ : ∃ W, w.alloc (.cells #[.int .i32 a, .int .i32 a2, .int .i32 c, .int .i32 c2] 90) = W := ⟨_, rfl⟩
  have hK0 : Keep (fun _ => True) w W := by rw [← hW]; exact (Keep.refl _ w).alloc _
  have hx0 : RngIs g ((a, a2, c, c2) : Int × Int × Int × Int) W := by rw [← hW, ← hg]; exact rng_one w ((a, a2, c, c2) : Int × Int × Int × Int)
  have hgb : base ≤ g := by rw [← hg]; exact hTr.hi
  have hT0 := hTr.keep hK0 trivial (fun _ _ => trivial)
  have HK0 := Lib.hid hK0
  have HX0 := Lib.hid hx0
  have HT0 := Lib.hid hT0
  have HA := Lib.hid hA
  have HWEQ := Lib.hid hW
  have HG := Lib.hid hg
  have HBD := Lib.hid hTr.bd
  clear hK0 hx0 hT0 hTr hrng hW hg hA
  go_enter Tryd.func43, Tryd.ntmps43
  go_wp2
  rw [HWEQ.out, HG.out]
  go_loopw [33] (fun iv wr => ∃ (k : Nat), iv = .int .i64 k ∧ k ≤ d.sg.length ∧ TrQ base b (.slice A d.sg.length cap) (clr d a a2 k) fl vq vm vr wr ∧ RngIs g ((a, a2, c, c2) : Int × Int × Int × Int) wr ∧ Keep (fun j => j < base ∧ j ≠ b) W wr) (fun iv _ => match iv with | .int _ i => d.sg.length - i.toNat | _ => 0)
  case atStart => exact ⟨0, rfl, Nat.zero_le _, by rw [clr_zero]; exact HT0.out, HX0.out, Keep.refl _ _⟩
  case round =>
    obtain ⟨k, rfl, hkn, hTr, hx, hkp⟩ := hrel
    obtain ⟨x0, x1, xlt⟩ := hx.cells
    have HX := Lib.hid hx
    have HKP := Lib.hid hkp
    have HTR := Lib.hid hTr
    clear hx hkp
    by_cases hlt : k < d.sg.length
    · have hlz : (k : Int) < (d.sg.length : Int) := by omega
      have hmx : d.sg.length ≤ 9223372036854775807 := by omega
      obtain ⟨g0, rfl⟩ := HA.out (by omega)
      obtain ⟨r, hr⟩ : ∃ r, d.sg[k]? = some r := ⟨_, List.getElem?_eq_getElem hlt⟩
      obtain ⟨hr0, hr1⟩ := HBD.out r (List.mem_of_getElem? hr)
      have cr : wr.cell? ⟨g0, k, none⟩ = some (.int .i32 r) := by
        have e := hTr.s.cellAt k (by show k < d.sg.length * 1; omega)
        rw [e]
        show (d.sg.map (Value.int .i32))[k]? = _
        rw [List.getElem?_map, hr]
        rfl
      have HR := Lib.hid hr
      clear hTr hr
      by_cases h1 : a ≤ r
      · by_cases h2 : r ≤ a2
        · by_cases h3 : r < 128
          · obtain ⟨n, rfl⟩ := Int.eq_ofNat_of_zero_le hr0
            have hn : n < 128 := by omega
            have h3z : (n : Int) ≤ 127 := by omega
            rcases HTR.out.q with ⟨_, _, hbad⟩ | ⟨qb, hvq, hqb, _⟩
            · exact absurd (hbad n (List.mem_of_getElem? HR.out)) (by omega)
            · subst hvq
              obtain ⟨c0, ⟨u1, hu1⟩, ⟨u2, hu2⟩, hfr, n1, n2, hql, hvq⟩ := HTR.out.factsQ hn
              have fa := hfr n
              have fb := hfr (128 + n)
              have HC := Lib.hid (HTR.out.cutQ hn)
              have hgq : Hid (g ≠ qb) := Lib.hid (is_ne ⟨_, HX.out⟩ (by obtain ⟨q, e, _, cs, e2, _⟩ := HTR.out.q.resolve_left (fun y => by cases y.1); injection e with e; injection e with e; injection e with e; subst e; exact ⟨cs, e2⟩) (by decide))
              have HQB := Lib.hid hqb
              clear hfr hvq hqb
              go_wp2
              go_roundw
              case rel =>
                obtain ⟨k1, k2⟩ := HC.out
                exact ⟨k + 1, by go_num, by omega, by rw [clr_in d a a2 k HR.out h1 h2]; exact k1, HX.out.keep k2 hgq.out, HKP.out.trans (k2.mono (fun j _ hj => by have := HQB.out; omega))⟩
              case measure => show d.sg.length - ((k : Int) + 1).toNat < d.sg.length - (k : Int).toNat; omega
          · have h3z : ¬ r ≤ 127 := by omega
            rcases HTR.out.m with ⟨_, _, hbad⟩ | ⟨mb, hvm, hmb, D, hD, hD2⟩
            · exact absurd (hbad r (List.mem_of_getElem? HR.out)) (by omega)
            · subst hvm
              have c1 : wr.cell? ⟨b, 1, none⟩ = some (.map (some mb)) := by simp [World.cell?, HTR.out.blk]
              have HD2 := Lib.hid hD2
              have HDO := Lib.hid hD
              have HMB := Lib.hid hmb
              have hgm : Hid (g ≠ mb) := Lib.hid (is_neM ⟨_, HX.out⟩ (by obtain ⟨es, c, e, _⟩ := hD; exact ⟨es, c, e⟩))
              clear hD hD2 hmb
              go_wp2_with (at_delete; refine wpList_delete_own _ rfl _ _ 55 21 rfl 21 law32 Tryd.underlying55 _ mb d.sg.length D rfl HDO.out _ _ rfl (keyOf_int_mk Tryd.underlying21 (i32_wf (by omega) (by omega))) ?_)
              intro w1 hown1 hturn1
              have HM1 := Lib.hid (MapIs.del (by omega) hown1 HD2.out HDO.out.isMap)
              have HG1 := Lib.hid hturn1.grown
              clear hown1 hturn1
              go_wp2
              go_roundw
              case rel =>
                obtain ⟨k1, k2⟩ := HTR.out.cutM (by omega) HM1.out HG1.out
                exact ⟨k + 1, by go_num, by omega, by rw [clr_in d a a2 k HR.out h1 h2]; exact k1, HX.out.keep k2 hgm.out, HKP.out.trans (k2.mono (fun j _ hj => by have := HMB.out; omega))⟩
              case measure => show d.sg.length - ((k : Int) + 1).toNat < d.sg.length - (k : Int).toNat; omega
        · go_wp2
          go_roundw
          case rel => exact ⟨k + 1, by go_num, by omega, by rw [clr_out d a a2 k HR.out (fun y => h2 y.2)]; exact HTR.out, HX.out, HKP.out⟩
          case measure => show d.sg.length - ((k : Int) + 1).toNat < d.sg.length - (k : Int).toNat; omega
      · go_wp2
        go_roundw
        case rel => exact ⟨k + 1, by go_num, by omega, by rw [clr_out d a a2 k HR.out (fun y => h1 y.1)]; exact HTR.out, HX.out, HKP.out⟩
        case measure => show d.sg.length - ((k : Int) + 1).toNat < d.sg.length - (k : Int).toNat; omega
    · have hlz : ¬ (k : Int) < (d.sg.length : Int) := by omega
      have hke : Hid (k = d.sg.length) := Lib.hid (by omega)
      have c2' : wr.cell? ⟨b, 2, none⟩ = some vr := by simp [World.cell?, hTr.blk]
      obtain ⟨gs, hgs1, hgs2, hrow⟩ := hTr.r
      have HGS := Lib.hid hgs2
      have HGL := Lib.hid hgs1
      have HRW := Lib.hid hrow
      have hbase : base ≤ (wr.alloc (.cells #[.pointer (some ⟨g, 0, none⟩)] 88)).heap.size := by have := hTr.hi; simp; omega
      have hlt0 : b < wr.heap.size := lt_of_block hTr.blk
      have HHI := Lib.hid hTr.hi
      have HLO := Lib.hid hTr.lo
      clear hTr hgs1 hgs2
      go_wp2_with (at_builtin; refine wpList_append_own_at _ rfl _ _ 56 rfl base 88 i0 (.pointer none) 1 8 Tryd.underlying56 hi hz0 hz1 hz2 rfl (by decide) vr d.R.length (gs.map fun g => .pointer (some ⟨g, 0, none⟩)) rfl (hrow.alloc _) ⟨wr.heap.size, 0, none⟩ 1 1 [.pointer (some ⟨g, 0, none⟩)] rfl rfl (cell_one_new _ _ _) (by intro u hu; simp at hu; subst hu; rfl) (by unfold maxLen; omega) (by omega) hbase ?_)
      intro v' w2 hown hgrow _ _
      obtain ⟨g', cap', hv⟩ : ∃ g' cap', v' = .slice (some ⟨g', 0, none⟩) (d.R.length + 1) cap' := by
        rcases hown.2 with ⟨_, hn⟩ | ⟨g', cap', cur, hv, _⟩
        · omega
        · exact ⟨g', cap', hv⟩
      subst hv
      have hb2 : w2.heap[b]? = wr.heap[b]? := (hgrow.block b (by simp; omega) (fun e => by have := (row_is HRW.out e.symm).1; have := HLO.out; omega)).trans (Below.heap_alloc _ _ _ hlt0)
      have d2 : w2.cell? ⟨b, 2, none⟩ = some vr := by rw [World.cell?_of_block hb2]; exact c2'
      have e2 : w2.frozen? ⟨b, 2, none⟩ = false := by rw [World.frozen?_of_block hb2]; simp [World.frozen?, HTR.out.blk]
      have HOWN := Lib.hid hown
      have HGR := Lib.hid hgrow
      clear hown hgrow hb2 hrow
      go_wp2
      go_ret2
      obtain ⟨k1, k2⟩ := HTR.out.putG HX.out hgb HOWN.out gs HGL.out rfl HGS.out (fun j hj => row_is HRW.out hj) HGR.out
      have e0 := clr_all d a a2 c c2
      rw [HRNG.out] at e0
      rw [hke.out] at k1
      exact ⟨rfl, vq, vm, _, e0 ▸ k1, (HK0.out.mono (fun _ _ _ => trivial)).trans (HKP.out.trans k2)⟩

set_option maxHeartbeats 4000000 in
set_option maxRecDepth 100000 in
theorem addG_dn (base b : Nat) (A : Option Addr) (cap : Nat) (d : TD) (fl : Int × Bool × Bool × Bool) (vq vm vr : Value) (w : World) (hTr : TrQ base b (.slice A d.sg.length cap) d fl vq vm vr w) (hA : 0 < d.sg.length → ∃ g0, A = some ⟨g0, 0, none⟩)
    (a a2 c c2 : Int) (haa : ¬ a < a2) (hl1 : d.sg.length ≤ 10000000000) (hl2 : d.R.length ≤ 10000000000) :
    Calls Tryd.prog 43 #[.pointer (some ⟨b, 0, none⟩), .int .i32 a, .int .i32 a2, .int .i32 c, .int .i32 c2, .slice A d.sg.length cap] w (AddGPost base b (.slice A d.sg.length cap) (putR d a a2 c c2) fl a2 c2 w) := by
  obtain ⟨i0, hi, hz0, hz1, hz2⟩ := info_parts infoR
  have hrng : rng a a2 c c2 = (a2, a, c2, c) := by unfold rng; rw [if_neg haa]
  have HRNG := Lib.hid hrng
  obtain ⟨g, hg⟩ : ∃ g, w.heap.size = g := ⟨_, rfl⟩
  obtain ⟨W, hW⟩ : ∃ W, w.alloc (.cells #[.int .i32 a2, .int .i32 a, .int .i32 c2, .int .i32 c] 90) = W := ⟨_, rfl⟩
  have hK0 : Keep (fun _ => True) w W := by rw [← hW]; exact (Keep.refl _ w).alloc _
  have hx0 : RngIs g ((a2, a, c2, c) : Int × Int × Int × Int) W := by rw [← hW, ← hg]; exact rng_one w ((a2, a, c2, c) : Int × Int × Int × Int)
  have hgb : base ≤ g := by rw [← hg]; exact hTr.hi
  have hT0 := hTr.keep hK0 trivial (fun _ _ => trivial)
  have HK0 := Lib.hid hK0
  have HX0 := Lib.hid hx0
  have HT0 := Lib.hid hT0
  have HA := Lib.hid hA
  have HWEQ := Lib.hid hW
  have HG := Lib.hid hg
  have HBD := Lib.hid hTr.bd
  clear hK0 hx0 hT0 hTr hrng hW hg hA
  go_enter Tryd.func43, Tryd.ntmps43
  go_wp2
  rw [HWEQ.out, HG.out]
  go_loopw [33] (fun iv wr => ∃ (k : Nat), iv = .int .i64 k ∧ k ≤ d.sg.length ∧ TrQ base b (.slice A d.sg.length cap) (clr d a2 a k) fl vq vm vr wr ∧ RngIs g ((a2, a, c2, c) : Int × Int × Int × Int) wr ∧ Keep (fun j => j < base ∧ j ≠ b) W wr) (fun iv _ => match iv with | .int _ i => d.sg.length - i.toNat | _ => 0)
  case atStart => exact ⟨0, rfl, Nat.zero_le _, by rw [clr_zero]; exact HT0.out, HX0.out, Keep.refl _ _⟩
  case round =>
    obtain ⟨k, rfl, hkn, hTr, hx, hkp⟩ := hrel
    obtain ⟨x0, x1, xlt⟩ := hx.cells
    have HX := Lib.hid hx
    have HKP := Lib.hid hkp
    have HTR := Lib.hid hTr
    clear hx hkp
    by_cases hlt : k < d.sg.length
    · have hlz : (k : Int) < (d.sg.length : Int) := by omega
      have hmx : d.sg.length ≤ 9223372036854775807 := by omega
      obtain ⟨g0, rfl⟩ := HA.out (by omega)
      obtain ⟨r, hr⟩ : ∃ r, d.sg[k]? = some r := ⟨_, List.getElem?_eq_getElem hlt⟩
      obtain ⟨hr0, hr1⟩ := HBD.out r (List.mem_of_getElem? hr)
      have cr : wr.cell? ⟨g0, k, none⟩ = some (.int .i32 r) := by
        have e := hTr.s.cellAt k (by show k < d.sg.length * 1; omega)
        rw [e]
        show (d.sg.map (Value.int .i32))[k]? = _
        rw [List.getElem?_map, hr]
        rfl
      have HR := Lib.hid hr
      clear hTr hr
      by_cases h1 : a2 ≤ r
      · by_cases h2 : r ≤ a
        · by_cases h3 : r < 128
          · obtain ⟨n, rfl⟩ := Int.eq_ofNat_of_zero_le hr0
            have hn : n < 128 := by omega
            have h3z : (n : Int) ≤ 127 := by omega
            rcases HTR.out.q with ⟨_, _, hbad⟩ | ⟨qb, hvq, hqb, _⟩
            · exact absurd (hbad n (List.mem_of_getElem? HR.out)) (by omega)
            · subst hvq
              obtain ⟨c0, ⟨u1, hu1⟩, ⟨u2, hu2⟩, hfr, n1, n2, hql, hvq⟩ := HTR.out.factsQ hn
              have fa := hfr n
              have fb := hfr (128 + n)
              have HC := Lib.hid (HTR.out.cutQ hn)
              have hgq : Hid (g ≠ qb) := Lib.hid (is_ne ⟨_, HX.out⟩ (by obtain ⟨q, e, _, cs, e2, _⟩ := HTR.out.q.resolve_left (fun y => by cases y.1); injection e with e; injection e with e; injection e with e; subst e; exact ⟨cs, e2⟩) (by decide))
              have HQB := Lib.hid hqb
              clear hfr hvq hqb
              go_wp2
              go_roundw
              case rel =>
                obtain ⟨k1, k2⟩ := HC.out
                exact ⟨k + 1, by go_num, by omega, by rw [clr_in d a2 a k HR.out h1 h2]; exact k1, HX.out.keep k2 hgq.out, HKP.out.trans (k2.mono (fun j _ hj => by have := HQB.out; omega))⟩
              case measure => show d.sg.length - ((k : Int) + 1).toNat < d.sg.length - (k : Int).toNat; omega
          · have h3z : ¬ r ≤ 127 := by omega
            rcases HTR.out.m with ⟨_, _, hbad⟩ | ⟨mb, hvm, hmb, D, hD, hD2⟩
            · exact absurd (hbad r (List.mem_of_getElem? HR.out)) (by omega)
            · subst hvm
              have c1 : wr.cell? ⟨b, 1, none⟩ = some (.map (some mb)) := by simp [World.cell?, HTR.out.blk]
              have HD2 := Lib.hid hD2
              have HDO := Lib.hid hD
              have HMB := Lib.hid hmb
              have hgm : Hid (g ≠ mb) := Lib.hid (is_neM ⟨_, HX.out⟩ (by obtain ⟨es, c, e, _⟩ := hD; exact ⟨es, c, e⟩))
              clear hD hD2 hmb
              go_wp2_with (at_delete; refine wpList_delete_own _ rfl _ _ 55 21 rfl 21 law32 Tryd.underlying55 _ mb d.sg.length D rfl HDO.out _ _ rfl (keyOf_int_mk Tryd.underlying21 (i32_wf (by omega) (by omega))) ?_)
              intro w1 hown1 hturn1
              have HM1 := Lib.hid (MapIs.del (by omega) hown1 HD2.out HDO.out.isMap)
              have HG1 := Lib.hid hturn1.grown
              clear hown1 hturn1
              go_wp2
              go_roundw
              case rel =>
                obtain ⟨k1, k2⟩ := HTR.out.cutM (by omega) HM1.out HG1.out
                exact ⟨k + 1, by go_num, by omega, by rw [clr_in d a2 a k HR.out h1 h2]; exact k1, HX.out.keep k2 hgm.out, HKP.out.trans (k2.mono (fun j _ hj => by have := HMB.out; omega))⟩
              case measure => show d.sg.length - ((k : Int) + 1).toNat < d.sg.length - (k : Int).toNat; omega
        · go_wp2
          go_roundw
          case rel => exact ⟨k + 1, by go_num, by omega, by rw [clr_out d a2 a k HR.out (fun y => h2 y.2)]; exact HTR.out, HX.out, HKP.out⟩
          case measure => show d.sg.length - ((k : Int) + 1).toNat < d.sg.length - (k : Int).toNat; omega
      · go_wp2
        go_roundw
        case rel => exact ⟨k + 1, by go_num, by omega, by rw [clr_out d a2 a k HR.out (fun y => h1 y.1)]; exact HTR.out, HX.out, HKP.out⟩
        case measure => show d.sg.length - ((k : Int) + 1).toNat < d.sg.length - (k : Int).toNat; omega
    · have hlz : ¬ (k : Int) < (d.sg.length : Int) := by omega
      have hke : Hid (k = d.sg.length) := Lib.hid (by omega)
      have c2' : wr.cell? ⟨b, 2, none⟩ = some vr := by simp [World.cell?, hTr.blk]
      obtain ⟨gs, hgs1, hgs2, hrow⟩ := hTr.r
      have HGS := Lib.hid hgs2
      have HGL := Lib.hid hgs1
      have HRW := Lib.hid hrow
      have hbase : base ≤ (wr.alloc (.cells #[.pointer (some ⟨g, 0, none⟩)] 88)).heap.size := by have := hTr.hi; simp; omega
      have hlt0 : b < wr.heap.size := lt_of_block hTr.blk
      have HHI := Lib.hid hTr.hi
      have HLO := Lib.hid hTr.lo
      clear hTr hgs1 hgs2
      go_wp2_with (at_builtin; refine wpList_append_own_at _ rfl _ _ 56 rfl base 88 i0 (.pointer none) 1 8 Tryd.underlying56 hi hz0 hz1 hz2 rfl (by decide) vr d.R.length (gs.map fun g => .pointer (some ⟨g, 0, none⟩)) rfl (hrow.alloc _) ⟨wr.heap.size, 0, none⟩ 1 1 [.pointer (some ⟨g, 0, none⟩)] rfl rfl (cell_one_new _ _ _) (by intro u hu; simp at hu; subst hu; rfl) (by unfold maxLen; omega) (by omega) hbase ?_)
      intro v' w2 hown hgrow _ _
      obtain ⟨g', cap', hv⟩ : ∃ g' cap', v' = .slice (some ⟨g', 0, none⟩) (d.R.length + 1) cap' := by
        rcases hown.2 with ⟨_, hn⟩ | ⟨g', cap', cur, hv, _⟩
        · omega
        · exact ⟨g', cap', hv⟩
      subst hv
      have hb2 : w2.heap[b]? = wr.heap[b]? := (hgrow.block b (by simp; omega) (fun e => by have := (row_is HRW.out e.symm).1; have := HLO.out; omega)).trans (Below.heap_alloc _ _ _ hlt0)
      have d2 : w2.cell? ⟨b, 2, none⟩ = some vr := by rw [World.cell?_of_block hb2]; exact c2'
      have e2 : w2.frozen? ⟨b, 2, none⟩ = false := by rw [World.frozen?_of_block hb2]; simp [World.frozen?, HTR.out.blk]
      have HOWN := Lib.hid hown
      have HGR := Lib.hid hgrow
      clear hown hgrow hb2 hrow
      go_wp2
      go_ret2
      obtain ⟨k1, k2⟩ := HTR.out.putG HX.out hgb HOWN.out gs HGL.out rfl HGS.out (fun j hj => row_is HRW.out hj) HGR.out
      have e0 := clr_all d a a2 c c2
      rw [HRNG.out] at e0
      rw [hke.out] at k1
      exact ⟨rfl, vq, vm, _, e0 ▸ k1, (HK0.out.mono (fun _ _ _ => trivial)).trans (HKP.out.trans k2)⟩
/-- a range is put in -/
theorem addG_any (base b : Nat) (vs : Value) (d : TD) (fl : Int × Bool × Bool × Bool) (vq vm vr : Value) (w : World) (h : TrQ base b vs d fl vq vm vr w) (a a2 c c2 : Int) (hl1 : d.sg.length ≤ 10000000000) (hl2 : d.R.length ≤ 10000000000) :
    Calls Tryd.prog 43 #[.pointer (some ⟨b, 0, none⟩), .int .i32 a, .int .i32 a2, .int .i32 c, .int .i32 c2, vs] w (AddGPost base b vs (putR d a a2 c c2) fl a2 c2 w) := by
  obtain ⟨A, cap, rfl, hA⟩ : ∃ A cap, vs = .slice A d.sg.length cap ∧ (0 < d.sg.length → ∃ g0, A = some ⟨g0, 0, none⟩) := by
    rcases h.s.2 with ⟨hv, hn⟩ | ⟨g0, cap, cur, hv, _⟩
    · exact ⟨none, 0, by rw [hn]; exact hv, fun e => by omega⟩
    · exact ⟨_, cap, hv, fun _ => ⟨g0, rfl⟩⟩
  by_cases haa : a < a2
  · exact addG_up base b A cap d fl vq vm vr w h hA a a2 c c2 haa hl1 hl2
  · exact addG_dn base b A cap d fl vq vm vr w h hA a a2 c c2 haa hl1 hl2
end Go.Proofs.YtdgaehkfdaacjaaDoor
