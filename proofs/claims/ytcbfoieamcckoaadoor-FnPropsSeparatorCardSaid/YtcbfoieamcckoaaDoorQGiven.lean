/- The walk of impl.given, at one pair without comments. -/
import Derived.Test.YtcbfoieamcckoaaDoorQMem
import Derived.Deep.LoopGhost
set_option linter.unusedVariables false
namespace Go.Proofs.YtcbfoieamcckoaaDoor
open Go.RowKit Plain Go.Maps

def D1 (k v : ByteArray) : DataW Unit := (DataW.map []).put (.string k.data.toList) (.lit (.string v.data.toList))
theorem four_cells {w : World} {k : Nat} {a b c d : Value} {t : TypeId} (h : w.heap[k]? = some (.cells #[a, b, c, d] t (0, 0))) :
    w.cell? ⟨k, 0, none⟩ = some a ∧ w.cell? ⟨k, 1, none⟩ = some b ∧ w.cell? ⟨k, 2, none⟩ = some c ∧ w.cell? ⟨k, 3, none⟩ = some d := by
  simp [World.cell?, h]
theorem qs_dis {B pb mb mc n : Nat} {D : DataW Unit} {ks : List Value} {lv : Value} {sep : ByteArray} {w : World} (h : QS B pb mb mc n D ks lv false sep w) : QS B pb mb mc n D ks lv true sep (w.setCell ⟨pb, 2, none⟩ (.bool true)) :=
  ⟨seven_set h.blk 2, mp_keep h.mp (Below.heap_setCell _ _ _ _ (fun e => q_neM ⟨_, h.blk⟩ (mp_is h.mp) e.symm)), q_keep h.row (fun g hg => Below.heap_setCell _ _ _ _ (q_ne (q_is h.row hg).2 ⟨_, h.blk⟩ (by decide))), h.lo⟩
theorem qs_sep {B pb mb mc n : Nat} {D : DataW Unit} {ks : List Value} {lv : Value} {dis : Bool} {sep : ByteArray} {w : World} (h : QS B pb mb mc n D ks lv dis sep w) (s2 : ByteArray) : QS B pb mb mc n D ks lv dis s2 (w.setCell ⟨pb, 6, none⟩ (.string s2)) :=
  ⟨seven_set h.blk 6, mp_keep h.mp (Below.heap_setCell _ _ _ _ (fun e => q_neM ⟨_, h.blk⟩ (mp_is h.mp) e.symm)), q_keep h.row (fun g hg => Below.heap_setCell _ _ _ _ (q_ne (q_is h.row hg).2 ⟨_, h.blk⟩ (by decide))), h.lo⟩
theorem qs_below {B pb mb mc n : Nat} {D : DataW Unit} {ks : List Value} {lv : Value} {dis : Bool} {sep : ByteArray} {w w' : World} (h : QS B pb mb mc n D ks lv dis sep w) (hb : Below w.heap.size w w') : QS B pb mb mc n D ks lv dis sep w' :=
  ⟨(hb.block _ (lt_of_block h.blk)).trans h.blk, mp_keep h.mp (hb.block _ (by obtain ⟨es, c, hm⟩ := mp_is h.mp; exact lt_of_block hm)), q_keep h.row (fun g hg => hb.block g (by obtain ⟨_, cs, hcs⟩ := q_is h.row hg; exact lt_of_block hcs)), h.lo⟩
def GPost (k v : ByteArray) (w : World) (e : Ending) (w' : World) : Prop := ∃ pb mb mc lv, e = .returned (.pointer (some ⟨pb, 0, none⟩)) ∧ QS w.heap.size pb mb mc 1 (D1 k v) [.string k] lv true ⟨#[]⟩ w' ∧ Below w.heap.size w w'
set_option maxHeartbeats 4000000 in
set_option maxRecDepth 100000 in
theorem given_any (g : Nat) (k v : ByteArray) (w : World) (hg : w.heap[g]? = some (.cells #[.string k, .string v, .string ⟨#[]⟩, .slice none 0 0] 26 (0, 0))) (hk0 : ¬ k.size = 0) (hk : k.size ≤ 2147483647) (hv : v.size ≤ 2147483647) :
    Calls Tryd.prog 10 #[.slice (some ⟨g, 0, none⟩) 1 1] w (GPost k v w) := by
  unfold GPost
  have HGR := Lib.hid hg
  have hgl := lt_of_block hg
  have HNW := Lib.hid (newP_any w)
  clear hg
  go_enter Tryd.func10, Tryd.ntmps10
  go_wp2_with (go_at_call 19; with_reducible refine HNW.out.mono ?_)
  rintro e w1 ⟨pb, mb, mc, lv, rfl, hq, hb1⟩
  dsimp only
  obtain ⟨c2, c3, c5, c6, f2, f5, f6⟩ := seven_cells hq.blk
  obtain ⟨W2, hW2⟩ : ∃ W2, w1.setCell ⟨pb, 2, none⟩ (.bool true) = W2 := ⟨_, rfl⟩
  have HQ2 : Hid (QS w.heap.size pb mb mc 0 (.map []) [] lv true ⟨#[]⟩ W2) := Lib.hid (hW2 ▸ qs_dis hq)
  have HB2 : Hid (Below w.heap.size w W2) := Lib.hid (hW2 ▸ hb1.setCell hq.lo.1 _)
  clear hq hb1
  go_wp2
  (try rw [hW2])
  clear hW2 c2 c3 c5 c6 f2 f5 f6
  go_loopg [12] 1 (fun gh iv wr => ∃ i : Nat, iv = .int .i64 i ∧ i ≤ 1 ∧ gh = 1 - i ∧ Hid ((i = 0 ∧ W2 = wr) ∨ (i = 1 ∧ ∃ lv', QS w.heap.size pb mb mc 1 (D1 k v) [.string k] lv' true ⟨#[]⟩ wr ∧ Below w.heap.size w wr)))
  case atStart => exact ⟨0, rfl, by omega, by omega, Lib.hid (.inl ⟨rfl, rfl⟩)⟩
  case round =>
    obtain ⟨i, rfl, hi, rfl, HI⟩ := hrel
    rcases HI.out with ⟨rfl, rfl⟩ | ⟨rfl, lv', hq', hb'⟩
    · clear HI
      obtain ⟨r0, r1, r2, r3⟩ := four_cells ((HB2.out.block g hgl).trans HGR.out)
      have hx3 := heap_alloc_new W2 (.cells #[.string k, .string v, .string ⟨#[]⟩, .slice none 0 0] 26)
      have hb23 : Below W2.heap.size W2 (W2.alloc (.cells #[.string k, .string v, .string ⟨#[]⟩, .slice none 0 0] 26)) := (Below.refl _ W2).alloc (Nat.le_refl _) _
      have HB3 := Lib.hid (bthen HB2.out hb23)
      have HX3 := Lib.hid hx3
      have HST := Lib.hid (setP_any w.heap.size pb mb mc 0 (.map []) [] lv ⟨#[]⟩ k v _ (qs_below HQ2.out hb23) (by omega) hk0 hk hv rfl)
      clear hx3 hb23
      go_wp2_with (go_at_call 20; with_reducible refine HST.out.mono ?_)
      rintro e W4 ⟨pv, lv4, rfl, hq4, hb4, hk4⟩
      dsimp only
      have hpb := lt_of_block HQ2.out.blk
      have hx4 : W4.heap[W2.heap.size]? = some (.cells #[.string k, .string v, .string ⟨#[]⟩, .slice none 0 0] 26 (0, 0)) := (hk4 _ (by simp) (by omega) (by obtain ⟨es, c, hm⟩ := mp_is HQ2.out.mp; have := lt_of_block hm; omega) (fun g9 hg9 => by obtain ⟨_, cs, hcs⟩ := q_is HQ2.out.row hg9; have := lt_of_block hcs; omega)).trans HX3.out
      obtain ⟨x0, x1, x2, x3⟩ := four_cells hx4
      have HQ4 : Hid (QS w.heap.size pb mb mc 1 (D1 k v) [.string k] lv4 true ⟨#[]⟩ W4) := Lib.hid hq4
      have HB4 := Lib.hid (HB3.out.trans hb4)
      clear hx4 hq4 hb4 hk4 hpb
      go_wp2
      go_roundg 0
      case measure => omega
      case rel => exact ⟨1, by go_num, by omega, rfl, Lib.hid (.inr ⟨rfl, lv4, HQ4.out, HB4.out⟩)⟩
    · have HF := Lib.hid hq'
      have HBF := Lib.hid hb'
      clear HI hq' hb'
      go_wp2_with fail
      go_ret
      exact ⟨pb, mb, mc, lv', rfl, HF.out, HBF.out⟩
end Go.Proofs.YtcbfoieamcckoaaDoor
