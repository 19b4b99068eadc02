/- The parser's memory in its loop. -/
import Derived.Test.YtackciefmdiphaaGreatDoorParRec
set_option linter.unusedVariables false
namespace Go.Proofs.YtackciefmdiphaaGreatDoor
open Go.RowKit Plain Go.Maps

structure PM (w : World) (e0 qb lb pb mb mc n nc : Nat) (p : PSt) (DC : DataW Value) (lv cmv : Value) (cm : List ByteArray) (wr : World) : Prop where
  pq : PQ w.heap.size pb mb mc n nc p DC lv wr
  cr : CRel w.heap.size DC p.cf lv cmv wr
  cmr : wr.ownsRow w.heap.size 9 1 cmv cm.length (cm.map Value.string)
  dis : ∀ g, cmv.ownBlock = some g → lv.ownBlock ≠ some g
  shp : ∃ G cap, cmv = .slice (some ⟨G, 0, none⟩) cm.length cap
  bel : Below w.heap.size w wr
  er : wr.heap[e0]? = some (.cells #[.nilIface] 67 (0, 0))
  qr : wr.heap[qb]? = some (.cells #[.pointer (some ⟨lb, 0, none⟩)] 168 (0, 0))
  le : w.heap.size ≤ e0 ∧ w.heap.size ≤ lb
theorem ne_ty {w : World} {k k' : Nat} {c c' : Array Value} {u u' : TypeId} (h1 : w.heap[k]? = some (.cells c u (0, 0))) (h2 : w.heap[k']? = some (.cells c' u' (0, 0))) (h : u ≠ u') : k ≠ k' := by
  intro e
  subst e
  rw [h1] at h2
  injection h2 with h2
  injection h2 with _ h2
  exact h h2
theorem ne_map {w : World} {k k' : Nat} {c : Array Value} {u : TypeId} (h1 : ∃ es cl, w.heap[k]? = some (.map es cl)) (h2 : w.heap[k']? = some (.cells c u (0, 0))) : k ≠ k' := by
  intro e
  subst e
  obtain ⟨es, cl, h1⟩ := h1
  rw [h1] at h2
  cases h2
/-- what keeps all blocks but one of a type that the memory does not have -/
theorem PM.keep {w : World} {e0 qb lb pb mb mc n nc : Nat} {p : PSt} {DC : DataW Value} {lv cmv : Value} {cm : List ByteArray} {wr w' : World} (h : PM w e0 qb lb pb mb mc n nc p DC lv cmv cm wr) {x : Nat} {cs : Array Value} {u : TypeId}
    (hx : x < wr.heap.size → wr.heap[x]? = some (.cells cs u (0, 0))) (hu : u = 116 ∨ u = 121)
    (hk : ∀ j, j < wr.heap.size → j ≠ x → w'.heap[j]? = wr.heap[j]?) (hb : Below w.heap.size w w') : PM w e0 qb lb pb mb mc n nc p DC lv cmv cm w' := by
  have hn : ∀ {k : Nat} {c : Array Value} {v : TypeId}, wr.heap[k]? = some (.cells c v (0, 0)) → v ≠ 116 → v ≠ 121 → w'.heap[k]? = wr.heap[k]? := fun {k c v} h1 h2 h3 => hk k (lx_lt h1) (fun e => by
    subst e
    have := hx (lx_lt h1)
    exact ne_ty h1 this (by rcases hu with e | e <;> rw [e] <;> assumption) rfl)
  have hm : ∀ {k : Nat}, (∃ es cl, wr.heap[k]? = some (.map es cl)) → w'.heap[k]? = wr.heap[k]? := fun {k} h1 => hk k (map_lt h1) (fun e => by
    subst e
    exact ne_map h1 (hx (map_lt h1)) rfl)
  have hr : ∀ {B n : Nat} {v : Value} {xs : List Value}, wr.ownsRow B 9 1 v n xs → w'.ownsRow B 9 1 v n xs := fun {B n v xs} h1 => row_keep h1 (fun g hg => by obtain ⟨c, hc⟩ := row_cells h1 hg; exact hn hc (by decide) (by decide))
  refine ⟨⟨(hn h.pq.blk (by decide) (by decide)).trans h.pq.blk, mp_keep h.pq.mp (hm (mp_is h.pq.mp)), mpc_keep h.pq.cp (hm (mpc_is h.pq.cp)), hr h.pq.row, h.pq.lo⟩, h.cr.keep (fun g c hc _ _ => hn hc (by decide) (by decide)) (.inl rfl) (.inl rfl), hr h.cmr, h.dis, h.shp, hb, (hn h.er (by decide) (by decide)).trans h.er, (hn h.qr (by decide) (by decide)).trans h.qr, h.le⟩
/-- .. all blocks -/
theorem PM.below {w : World} {e0 qb lb pb mb mc n nc : Nat} {p : PSt} {DC : DataW Value} {lv cmv : Value} {cm : List ByteArray} {wr w' : World} (h : PM w e0 qb lb pb mb mc n nc p DC lv cmv cm wr) (hb : Below wr.heap.size wr w') : PM w e0 qb lb pb mb mc n nc p DC lv cmv cm w' :=
  h.keep (x := wr.heap.size) (cs := #[]) (u := 116) (fun hx => absurd hx (by omega)) (.inl rfl) (fun j hj _ => hb.block j hj) (bthen h.bel (hb.mono (by have := h.bel.size; exact Nat.le_refl _)))
/-- the items that are left, in the block g -/
def IT (lb g : Nat) (s : ByteArray) (rest : List LI) (w : World) : Prop :=
  ∃ st pos start wd lp rv o c cs, w.heap[lb]? = some (lxC s st pos start wd lp rv (.slice (some ⟨g, o, none⟩) rest.length c)) ∧ rest.length ≤ c ∧ c ≤ 9223372036854775807 ∧ (∀ (i : Nat) (x : LI), rest[i]? = some x → ItemAt g (o + 3 * i) x w) ∧ w.heap[g]? = some (.cells cs 121 (0, 0))
theorem IT.lex {lb g : Nat} {s : ByteArray} {rest : List LI} {w : World} (h : IT lb g s rest w) : ∃ cs, w.heap[lb]? = some (.cells cs 116 (0, 0)) := by
  obtain ⟨st, pos, start, wd, lp, rv, o, c, cs, h1, _⟩ := h
  exact ⟨_, h1⟩
theorem IT.row {lb g : Nat} {s : ByteArray} {rest : List LI} {w : World} (h : IT lb g s rest w) : ∃ cs, w.heap[g]? = some (.cells cs 121 (0, 0)) := by
  obtain ⟨st, pos, start, wd, lp, rv, o, c, cs, h1, h2, h3, h4, h5⟩ := h
  exact ⟨_, h5⟩
theorem ItemAt.keep {g o : Nat} {x : LI} {w w' : World} (h : ItemAt g o x w) (e : w'.heap[g]? = w.heap[g]?) : ItemAt g o x w' := by
  obtain ⟨h1, h2, h3⟩ := h
  refine ⟨?_, ?_, ?_⟩
  · unfold World.cell? at h1 ⊢; rw [e]; exact h1
  · unfold World.cell? at h2 ⊢; rw [e]; exact h2
  · unfold World.cell? at h3 ⊢; rw [e]; exact h3
theorem IT.keep {lb g : Nat} {s : ByteArray} {rest : List LI} {w w' : World} (h : IT lb g s rest w) (e1 : w'.heap[lb]? = w.heap[lb]?) (e2 : w'.heap[g]? = w.heap[g]?) : IT lb g s rest w' := by
  obtain ⟨st, pos, start, wd, lp, rv, o, c, cs, h1, h2, h3, h4, h5⟩ := h
  exact ⟨st, pos, start, wd, lp, rv, o, c, cs, e1.trans h1, h2, h3, fun i x hx => (h4 i x hx).keep e2, e2.trans h5⟩
theorem IT.lt {lb g : Nat} {s : ByteArray} {rest : List LI} {w : World} (h : IT lb g s rest w) : lb < w.heap.size ∧ g < w.heap.size := by
  obtain ⟨c1, h1⟩ := h.lex
  obtain ⟨c2, h2⟩ := h.row
  exact ⟨lx_lt h1, lx_lt h2⟩
theorem IT.below {lb g : Nat} {s : ByteArray} {rest : List LI} {w w' : World} (h : IT lb g s rest w) (hb : Below w.heap.size w w') : IT lb g s rest w' := h.keep (hb.block lb h.lt.1) (hb.block g h.lt.2)
/-- an item is taken -/
theorem IT.call {q lb g : Nat} {s : ByteArray} {x : LI} {rest : List LI} {w : World} (h : IT lb g s (x :: rest) w) (E : Nat) (es : List Nat) (ne : Nat) (hne : es.length = ne) (hq : w.cell? ⟨q, 0, none⟩ = some (.pointer (some ⟨lb, 0, none⟩))) (hE : KindsAt E es w) (hEt : ∃ c u, w.heap[E]? = some (.cells c u (0, 0)) ∧ u ≠ 116) (hn : ne ≤ 10) :
    Calls Tryz.prog 95 #[.pointer (some ⟨q, 0, none⟩), .slice (some ⟨E, 0, none⟩) ne ne] w fun e w' =>
      (x.kind ∈ es → e = .returned (itemV x) ∧ KeepB lb w w' ∧ (∀ B, B ≤ lb → B ≤ w.heap.size → Below B w w') ∧ (rest ≠ [] → IT lb g s rest w') ∧ (∃ cs, w'.heap[lb]? = some (.cells cs 116 (0, 0)))) ∧ (¬ x.kind ∈ es → EBad lb w e w') := by
  obtain ⟨st, pos, start, wd, lp, rv, o, c, cs, h1, h2, h3, h4, h5⟩ := h
  obtain ⟨cE, uE, hE1, hE2⟩ := hEt
  have hx := h4 0 x rfl
  refine (expect_any q lb s x g o rest.length c E es ne hne st pos start wd lp rv w h1 hq hE (ne_ty (by unfold lxC at h1; exact h1) hE1 (fun e => hE2 e.symm)) (lx_lt hE1) hx (by simpa using h2) h3 hn).mono ?_
  rintro e w' ⟨ha, hb⟩
  refine ⟨fun hm => ?_, hb⟩
  obtain ⟨rfl, hk, hbw, st', pos', start', wd', lp', rv', iv', k1, k2⟩ := ha hm
  refine ⟨rfl, hk, hbw, fun hr => ?_, ⟨_, k1⟩⟩
  have hl : 0 < rest.length := List.length_pos_iff.2 hr
  have hgl : g ≠ lb := ne_ty h5 (by unfold lxC at h1; exact h1) (by decide)
  have eg := hk.2 g (lx_lt h5) hgl
  refine ⟨st', pos', start', wd', lp', rv', o + 3, c - 1, cs, ?_, ?_, by omega, fun i y hy => ?_, eg.trans h5⟩
  · rw [k1, k2 hl]
  · have : (x :: rest).length = rest.length + 1 := rfl
    omega
  · have := h4 (i + 1) y (by simpa using hy)
    rw [show o + 3 * (i + 1) = o + 3 + 3 * i by omega] at this
    exact this.keep eg
end Go.Proofs.YtackciefmdiphaaGreatDoor
