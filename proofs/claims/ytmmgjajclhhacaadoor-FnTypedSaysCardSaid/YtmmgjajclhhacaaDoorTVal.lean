/- A set of properties with one value or none: made, asked for its key; errors that are no nil. -/
import Derived.Test.YtmmgjajclhhacaaDoorTMem
import Derived.Test.YtmmgjajclhhacaaDoorTypedLaw
import Derived.Test.YtmmgjajclhhacaaDoorShelf
set_option linter.unusedVariables false
namespace Go.Proofs.YtmmgjajclhhacaaDoor
open Go.RowKit Go.Maps

def keyK : ByteArray := ⟨#[107]⟩
/-- properties with the value v at the key 'k' (is), or none -/
def VS (is : Bool) (v : ByteArray) (pb : Nat) (w : World) : Prop :=
  ∃ B mb mc n D ks lv, QS B pb mb mc n D ks lv true ⟨#[]⟩ w ∧ Maps.has D (.string keyK.data.toList) = is ∧ (is = true → D.atKey (.string keyK.data.toList) (.lit (.string [])) = .lit (.string v.data.toList))
theorem qs_below {B pb mb mc n : Nat} {D : DataW Unit} {ks : List Value} {lv : Value} {dis : Bool} {sep : ByteArray} {w w' : World} (h : QS B pb mb mc n D ks lv dis sep w) (hb : Below w.heap.size w w') : QS B pb mb mc n D ks lv dis sep w' :=
  ⟨(hb.block _ (lt_of_block h.blk)).trans h.blk, mp_keep h.mp (hb.block _ (by obtain ⟨es, c, hm⟩ := mp_is h.mp; exact lt_of_block hm)), q_keep h.row (fun g hg => hb.block g (by obtain ⟨_, cs, hcs⟩ := q_is h.row hg; exact lt_of_block hcs)), h.lo⟩
theorem qs_dis {B pb mb mc n : Nat} {D : DataW Unit} {ks : List Value} {lv : Value} {sep : ByteArray} {w : World} (h : QS B pb mb mc n D ks lv false sep w) : QS B pb mb mc n D ks lv true sep (w.setCell ⟨pb, 2, none⟩ (.bool true)) :=
  ⟨seven_set h.blk 2, mp_keep h.mp (Below.heap_setCell _ _ _ _ (fun e => q_neM ⟨_, h.blk⟩ (mp_is h.mp) e.symm)), q_keep h.row (fun g hg => Below.heap_setCell _ _ _ _ (q_ne (q_is h.row hg).2 ⟨_, h.blk⟩ (by decide))), h.lo⟩
theorem bthen {w w1 w2 : World} (h : Below w.heap.size w w1) (k : Below w1.heap.size w1 w2) : Below w.heap.size w w2 := h.trans (k.mono h.size)
set_option maxRecDepth 100000 in
theorem get_yes (v : ByteArray) (pb : Nat) (w : World) (h : VS true v pb w) :
    Calls Tryd.prog 35 #[.pointer (some ⟨pb, 0, none⟩), .string ⟨#[107]⟩] w fun e w' => e = .returned (.tuple #[.string v, .bool true]) ∧ w = w' := by
  obtain ⟨B, mb, mc, n, D, ks, lv, hq, hh, ha⟩ := h
  refine (getP_any B pb mb mc n D ks lv ⟨#[]⟩ keyK w hq (by decide)).mono ?_
  rintro e w' ⟨⟨x, rfl, hx⟩, rfl⟩
  have := ha rfl
  rw [hx] at this
  have e2 : x = v := by
    injection this with this
    injection this with this
    exact ByteArray.ext (Array.toList_inj.1 this)
  rw [hh, e2]
  exact ⟨rfl, rfl⟩
set_option maxRecDepth 100000 in
theorem get_no (v : ByteArray) (pb : Nat) (w : World) (h : VS false v pb w) :
    Calls Tryd.prog 35 #[.pointer (some ⟨pb, 0, none⟩), .string ⟨#[107]⟩] w fun e w' => ∃ x, e = .returned (.tuple #[.string x, .bool false]) ∧ w = w' := by
  obtain ⟨B, mb, mc, n, D, ks, lv, hq, hh, ha⟩ := h
  refine (getP_any B pb mb mc n D ks lv ⟨#[]⟩ keyK w hq (by decide)).mono ?_
  rintro e w' ⟨⟨x, rfl, hx⟩, rfl⟩
  rw [hh]
  exact ⟨x, rfl, rfl⟩
def VPost (is : Bool) (v : ByteArray) (w : World) (e : Ending) (w' : World) : Prop := ∃ pb, e = .returned (.pointer (some ⟨pb, 0, none⟩)) ∧ VS is v pb w' ∧ Below w.heap.size w w'
set_option maxHeartbeats 2000000 in
set_option maxRecDepth 100000 in
theorem valued_any (is : Bool) (v : ByteArray) (w : World) (hv : v.size ≤ 2147483647) :
    Calls Tryd.prog 16 #[.string v, .bool is] w (VPost is v w) := by
  unfold VPost
  have HNW := Lib.hid (newP_any w)
  cases is with
  | false =>
    go_enter Tryd.func16, Tryd.ntmps16
    go_wp2_with (go_at_call 25; with_reducible refine HNW.out.mono ?_)
    rintro e w1 ⟨pb, mb, mc, lv, rfl, hq, hb1⟩
    dsimp only
    obtain ⟨c2, c3, c5, c6, f2, f5, f6⟩ := seven_cells hq.blk
    have HQ := Lib.hid hq
    have HB := Lib.hid hb1
    clear hq hb1
    go_wp2
    go_ret
    exact ⟨pb, rfl, ⟨_, mb, mc, 0, _, _, lv, qs_dis HQ.out, rfl, fun h => by cases h⟩, HB.out.setCell HQ.out.lo.1 _⟩
  | true =>
    go_enter Tryd.func16, Tryd.ntmps16
    go_wp2_with (go_at_call 25; with_reducible refine HNW.out.mono ?_)
    rintro e w1 ⟨pb, mb, mc, lv, rfl, hq, hb1⟩
    dsimp only
    obtain ⟨c2, c3, c5, c6, f2, f5, f6⟩ := seven_cells hq.blk
    obtain ⟨W2, hW2⟩ : ∃ W2, w1.setCell ⟨pb, 2, none⟩ (.bool true) = W2 := ⟨_, rfl⟩
    have HQ2 : Hid (QS w.heap.size pb mb mc 0 (.map []) [] lv true ⟨#[]⟩ W2) := Lib.hid (hW2 ▸ qs_dis hq)
    have HB2 : Hid (Below w.heap.size w W2) := Lib.hid (hW2 ▸ hb1.setCell hq.lo.1 _)
    have HST := Lib.hid (setP_any w.heap.size pb mb mc 0 (.map []) [] lv ⟨#[]⟩ ⟨#[107]⟩ v W2 HQ2.out (by omega) (by decide) (by decide) hv rfl)
    clear hq hb1
    go_wp2_with (go_at_call 26; (try rw [hW2]); with_reducible refine HST.out.mono ?_)
    rintro e W4 ⟨pv, lv4, rfl, hq4, hb4, hk4⟩
    dsimp only
    have HQ4 := Lib.hid hq4
    have HB4 := Lib.hid (HB2.out.trans hb4)
    clear hq4 hb4 hk4 c2 c3 c5 c6 f2 f5 f6
    go_wp2
    go_ret
    refine ⟨pb, rfl, ⟨_, mb, mc, _, _, _, lv4, HQ4.out, ?_, fun _ => ?_⟩, HB4.out⟩
    · simp [keyK, Maps.has, DataW.put, DataW.insert, Lit.sameKey]
    · simp [keyK, DataW.put, DataW.atKey, DataW.insert, Lit.sameKey]
/-- the errors of package strconv's -/
def ErrTab (w : World) : Prop := (∃ te pe, w.cell? ⟨0, 0, none⟩ = some (.iface te pe)) ∧ (∃ te pe, w.cell? ⟨1, 0, none⟩ = some (.iface te pe))
theorem ErrTab.below {w w' : World} (h : ErrTab w) (hb : Below w.heap.size w w') : ErrTab w' := by
  obtain ⟨⟨a, b, h1⟩, ⟨c, d, h2⟩⟩ := h
  exact ⟨⟨a, b, (hb.cell (Lib.lt_of_cell h1)).trans h1⟩, ⟨c, d, (hb.cell (Lib.lt_of_cell h2)).trans h2⟩⟩
def EPost (w : World) (e : Ending) (w' : World) : Prop := ∃ T p, e = .returned (.iface T p) ∧ Below w.heap.size w w'
set_option maxRecDepth 100000 in
theorem badKey_any (k : ByteArray) (w : World) : Calls Tryd.prog 38 #[.string k] w (EPost w) := by
  unfold EPost
  go_enter Tryd.func38, Tryd.ntmps38
  go_wp2
  go_ret
  exact ⟨_, _, rfl, (Below.refl _ w).alloc (Nat.le_refl _) _⟩
end Go.Proofs.YtmmgjajclhhacaaDoor
