/- The parser's memory, step by step. -/
import Derived.Test.YtackciefmdiphaaGreatDoorParM2
import Derived.Maps.AppendAt
set_option linter.unusedVariables false
namespace Go.Proofs.YtackciefmdiphaaGreatDoor
open Go.RowKit Plain Go.Maps

theorem row_sl {w : World} {B n : Nat} {v : Value} {xs : List Value} (h : w.ownsRow B 9 1 v (n + 1) xs) : ∃ G cap, v = .slice (some ⟨G, 0, none⟩) (n + 1) cap := by
  rcases h.2 with ⟨_, h0⟩ | ⟨g, cap, cur, hv, _⟩
  · omega
  · exact ⟨g, cap, hv⟩
/-- a text is put to the comments -/
theorem PM.addCm {w : World} {e0 qb lb pb mb mc n nc : Nat} {p : PSt} {DC : DataW Value} {lv cmv cmv' : Value} {cm : List ByteArray} {wr w' : World} (h : PM w e0 qb lb pb mb mc n nc p DC lv cmv cm wr) (t : ByteArray)
    (ho : w'.ownsRow w.heap.size 9 1 cmv' (cm.length + 1) (cm.map Value.string ++ [.string t])) (hg : wr.grownBy w' cmv.ownBlock) (hs : cmv'.ownBlock = cmv.ownBlock ∨ cmv'.ownBlock = some wr.heap.size) :
    PM w e0 qb lb pb mb mc n nc p DC lv cmv' (cm ++ [t]) w' := by
  have hn : ∀ {k : Nat} {c : Array Value} {v : TypeId}, wr.heap[k]? = some (.cells c v (0, 0)) → v ≠ 9 → w'.heap[k]? = wr.heap[k]? := fun {k c v} h1 h2 => hg.block k (lx_lt h1) (fun e => by
    obtain ⟨cs, h3⟩ := row_cells h.cmr e.symm
    exact ne_ty h1 h3 h2 rfl)
  have hm : ∀ {k : Nat}, (∃ es cl, wr.heap[k]? = some (.map es cl)) → w'.heap[k]? = wr.heap[k]? := fun {k} h1 => hg.block k (map_lt h1) (fun e => by
    obtain ⟨cs, h3⟩ := row_cells h.cmr e.symm
    exact ne_map h1 h3 rfl)
  refine ⟨⟨(hn h.pq.blk (by decide)).trans h.pq.blk, mp_keep h.pq.mp (hm (mp_is h.pq.mp)), mpc_keep h.pq.cp (hm (mpc_is h.pq.cp)), row_keep h.pq.row (fun g hgg => hg.block g (row_lt h.pq.row hgg).2 (fun e => h.dis g e.symm hgg)), h.pq.lo⟩, h.cr.keep (fun g cs hcs _ h2 => hg.block g (lx_lt hcs) (fun e => h2 e.symm)) (.inl rfl) ?_, ?_, ?_, ?_, ?_, (hn h.er (by decide)).trans h.er, (hn h.qr (by decide)).trans h.qr, h.le⟩
  · rcases hs with e | e
    · exact .inl e
    · refine .inr (fun g hgg => ?_)
      rw [e] at hgg
      exact Nat.le_of_eq (Option.some.inj hgg)
  · simpa using ho
  · intro g hgg
    rcases hs with e | e
    · rw [e] at hgg; exact h.dis g hgg
    · rw [e] at hgg
      obtain rfl := Option.some.inj hgg
      exact fun e2 => absurd (row_lt h.pq.row e2).2 (Nat.lt_irrefl _)
  · obtain ⟨G, cap, e⟩ := row_sl ho
    exact ⟨G, cap, by simpa using e⟩
  · exact h.bel.grown hg h.bel.size (fun g hgg => (row_lt h.cmr hgg).1)
/-- a key is put to the keys -/
theorem PM.addKey {w : World} {e0 qb lb pb mb mc n nc : Nat} {p : PSt} {DC : DataW Value} {lv lv' cmv : Value} {cm : List ByteArray} {wr w' : World} (h : PM w e0 qb lb pb mb mc n nc p DC lv cmv cm wr) (k : ByteArray)
    (ho : w'.ownsRow w.heap.size 9 1 lv' (p.ks.length + 1) (p.ks.map Value.string ++ [.string k])) (hg : wr.grownBy w' lv.ownBlock) (hs : lv'.ownBlock = lv.ownBlock ∨ lv'.ownBlock = some wr.heap.size) :
    PM w e0 qb lb pb mb mc n nc { p with ks := p.ks ++ [k] } DC lv' cmv cm (w'.setCell ⟨pb, 5, none⟩ lv') := by
  have hn : ∀ {k : Nat} {c : Array Value} {v : TypeId}, wr.heap[k]? = some (.cells c v (0, 0)) → v ≠ 9 → w'.heap[k]? = wr.heap[k]? := fun {k c v} h1 h2 => hg.block k (lx_lt h1) (fun e => by
    obtain ⟨cs, h3⟩ := row_cells h.pq.row e.symm
    exact ne_ty h1 h3 h2 rfl)
  have hm : ∀ {k : Nat}, (∃ es cl, wr.heap[k]? = some (.map es cl)) → w'.heap[k]? = wr.heap[k]? := fun {k} h1 => hg.block k (map_lt h1) (fun e => by
    obtain ⟨cs, h3⟩ := row_cells h.pq.row e.symm
    exact ne_map h1 h3 rfl)
  have hp := (hn h.pq.blk (by decide)).trans h.pq.blk
  have hst : ∀ {j : Nat}, j ≠ pb → (w'.setCell ⟨pb, 5, none⟩ lv').heap[j]? = w'.heap[j]? := fun hj => Below.heap_setCell _ _ _ _ hj
  have hty : ∀ {j : Nat} {c : Array Value} {v : TypeId}, w'.heap[j]? = some (.cells c v (0, 0)) → v ≠ 86 → (w'.setCell ⟨pb, 5, none⟩ lv').heap[j]? = w'.heap[j]? := fun h1 h2 => hst (ne_ty h1 hp h2)
  have hrw : ∀ {B n : Nat} {v : Value} {xs : List Value}, w'.ownsRow B 9 1 v n xs → (w'.setCell ⟨pb, 5, none⟩ lv').ownsRow B 9 1 v n xs := fun {B n v xs} h1 => row_keep h1 (fun g hg => by obtain ⟨c, hc⟩ := row_cells h1 hg; exact hty hc (by decide))
  have hmp : ∀ {k : Nat}, (∃ es cl, wr.heap[k]? = some (.map es cl)) → (w'.setCell ⟨pb, 5, none⟩ lv').heap[k]? = wr.heap[k]? := fun {k} h1 => (hst (fun e => by
    subst e
    exact ne_map h1 h.pq.blk rfl)).trans (hm h1)
  have hdis : ∀ g, cmv.ownBlock = some g → lv'.ownBlock ≠ some g := by
    intro g hgg e2
    rcases hs with e | e
    · rw [e] at e2; exact h.dis g hgg e2
    · rw [e] at e2
      obtain rfl := Option.some.inj e2
      exact absurd (row_lt h.cmr hgg).2 (Nat.lt_irrefl _)
  have hc1 : CRel w.heap.size DC p.cf lv' cmv w' := h.cr.keep (fun g cs hcs h1 _ => hg.block g (lx_lt hcs) (fun e => h1 e.symm)) (by
    rcases hs with e | e
    · exact .inl e
    · refine .inr (fun g hgg => ?_)
      rw [e] at hgg
      exact Nat.le_of_eq (Option.some.inj hgg)) (.inl rfl)
  refine ⟨⟨?_, mp_keep h.pq.mp (hmp (mp_is h.pq.mp)), mpc_keep h.pq.cp (hmp (mpc_is h.pq.cp)), ?_, h.pq.lo⟩, hc1.keep (fun g cs hcs _ _ => hty hcs (by decide)) (.inl rfl) (.inl rfl), ?_, hdis, h.shp, ?_, ?_, ?_, h.le⟩
  · exact seven_set hp 5
  · have := hrw ho
    simpa using this
  · exact hrw (row_keep h.cmr (fun g hgg => hg.block g (row_lt h.cmr hgg).2 (fun e => h.dis g hgg e.symm)))
  · exact (h.bel.grown hg h.bel.size (fun g hgg => (row_lt h.pq.row hgg).1)).setCell (p := ⟨pb, 5, none⟩) h.pq.lo.1 _
  · have e1 := (hn h.er (by decide)).trans h.er
    exact (hty e1 (by decide)).trans e1
  · have e1 := (hn h.qr (by decide)).trans h.qr
    exact (hty e1 (by decide)).trans e1
/-- a raw value is put -/
theorem PM.putD {w : World} {e0 qb lb pb mb mc n nc n' : Nat} {p : PSt} {DC : DataW Value} {lv cmv : Value} {cm : List ByteArray} {wr w' : World} (h : PM w e0 qb lb pb mb mc n nc p DC lv cmv cm wr) (k v : ByteArray)
    (ho : MpS w' mb n' (p.D.put (keyL8 k) (.lit (.string v.data.toList)))) (hg : wr.grownBy w' (some mb)) : PM w e0 qb lb pb mb mc n' nc (putV p k v) DC lv cmv cm w' := by
  have hn : ∀ {k : Nat} {c : Array Value} {v : TypeId}, wr.heap[k]? = some (.cells c v (0, 0)) → w'.heap[k]? = wr.heap[k]? := fun {k c v} h1 => hg.block k (lx_lt h1) (fun e => ne_map (mp_is h.pq.mp) h1 (Option.some.inj e).symm)
  have hrw : ∀ {B n : Nat} {v : Value} {xs : List Value}, wr.ownsRow B 9 1 v n xs → w'.ownsRow B 9 1 v n xs := fun {B n v xs} h1 => row_keep h1 (fun g hg => by obtain ⟨c, hc⟩ := row_cells h1 hg; exact hn hc)
  exact ⟨⟨(hn h.pq.blk).trans h.pq.blk, ho, mpc_keep h.pq.cp (hg.block mc (map_lt (mpc_is h.pq.cp)) (fun e => h.pq.lo.2.2.2 (Option.some.inj e).symm)), hrw h.pq.row, h.pq.lo⟩, h.cr.keep (fun g cs hcs _ _ => hn hcs) (.inl rfl) (.inl rfl), hrw h.cmr, h.dis, h.shp, h.bel.grown hg h.bel.size (fun g e => by obtain rfl := Option.some.inj e; exact h.pq.lo.2.1), (hn h.er).trans h.er, (hn h.qr).trans h.qr, h.le⟩
/-- the comments are put, and the row of comments is a new one -/
theorem PM.putC {w : World} {e0 qb lb pb mb mc n nc nc' : Nat} {p : PSt} {DC : DataW Value} {lv cmv : Value} {cm : List ByteArray} {wr w' : World} (h : PM w e0 qb lb pb mb mc n nc p DC lv cmv cm wr) (k : ByteArray)
    (ho : MpC w' mc nc' (DC.put (keyL8 k) (.held cmv))) (hg : wr.grownBy w' (some mc)) :
    PM w e0 qb lb pb mb mc n nc' { p with cf := updC p.cf k cm } (DC.put (keyL8 k) (.held cmv)) lv (.slice (some ⟨w'.heap.size, 0, none⟩) 0 0) [] (w'.alloc (.cells #[] 9)) := by
  have hn : ∀ {k : Nat} {c : Array Value} {v : TypeId}, wr.heap[k]? = some (.cells c v (0, 0)) → (w'.alloc (.cells #[] 9)).heap[k]? = wr.heap[k]? := fun {k c v} h1 => (Below.heap_alloc _ _ _ (Nat.lt_of_lt_of_le (lx_lt h1) hg.size)).trans (hg.block k (lx_lt h1) (fun e => ne_map (mpc_is h.pq.cp) h1 (Option.some.inj e).symm))
  have hrw : ∀ {B n : Nat} {v : Value} {xs : List Value}, wr.ownsRow B 9 1 v n xs → (w'.alloc (.cells #[] 9)).ownsRow B 9 1 v n xs := fun {B n v xs} h1 => row_keep h1 (fun g hg => by obtain ⟨c, hc⟩ := row_cells h1 hg; exact hn hc)
  have hml := map_lt (mp_is h.pq.mp)
  have hcl := map_lt (mpc_is ho)
  refine ⟨⟨(hn h.pq.blk).trans h.pq.blk, mp_keep h.pq.mp ((Below.heap_alloc _ _ _ (Nat.lt_of_lt_of_le hml hg.size)).trans (hg.block mb hml (fun e => h.pq.lo.2.2.2 (Option.some.inj e)))), mpc_keep ho (Below.heap_alloc _ _ _ hcl), hrw h.pq.row, h.pq.lo⟩, h.cr.store h.pq.cp h.cmr h.dis (fun g cs hcs => hn hcs) (fun g e => ?_), ?_, fun g e e2 => ?_, ⟨_, _, rfl⟩, ?_, (hn h.er).trans h.er, (hn h.qr).trans h.qr, h.le⟩
  · have e3 : some w'.heap.size = some g := e
    obtain rfl := Option.some.inj e3
    exact hg.size
  · refine ⟨rfl, .inr ⟨w'.heap.size, 0, #[], rfl, Nat.le_trans h.bel.size hg.size, heap_alloc_new w' _, Nat.le_refl _, by unfold maxLen; omega, rfl, rfl⟩⟩
  · have e3 : some w'.heap.size = some g := e
    obtain rfl := Option.some.inj e3
    have := (row_lt h.pq.row e2).2
    have := hg.size
    omega
  · exact (h.bel.grown hg h.bel.size (fun g e => by obtain rfl := Option.some.inj e; exact h.pq.lo.2.2.1)).alloc (Nat.le_trans h.bel.size hg.size) _
/-- the loop's memory at its start -/
theorem PM.start {w w3 : World} {e0 qb lb pb mb mc : Nat} {lv : Value} (h : PQ w.heap.size pb mb mc 0 0 pst0 (.map []) lv w3) (hb : Below w.heap.size w w3) (er : w3.heap[e0]? = some (.cells #[.nilIface] 67 (0, 0))) (qr : w3.heap[qb]? = some (.cells #[.pointer (some ⟨lb, 0, none⟩)] 168 (0, 0))) (hle : w.heap.size ≤ e0 ∧ w.heap.size ≤ lb) :
    PM w e0 qb lb pb mb mc 0 0 pst0 (.map []) lv (.slice (some ⟨w3.heap.size, 0, none⟩) 0 0) [] (w3.alloc (.cells #[] 9)) := by
  have hb4 : Below w3.heap.size w3 (w3.alloc (.cells #[] 9)) := (Below.refl _ w3).alloc (Nat.le_refl _) _
  refine ⟨h.below hb4, CRel.zero _ _ _ _, ⟨rfl, .inr ⟨w3.heap.size, 0, #[], rfl, hb.size, heap_alloc_new w3 _, Nat.le_refl _, by unfold maxLen; omega, rfl, rfl⟩⟩, fun g e e2 => ?_, ⟨_, _, rfl⟩, hb.alloc hb.size _, (hb4.block _ (lx_lt er)).trans er, (hb4.block _ (lx_lt qr)).trans qr, hle⟩
  have e3 : some w3.heap.size = some g := e
  obtain rfl := Option.some.inj e3
  exact absurd (row_lt h.row e2).2 (Nat.lt_irrefl _)
/-- a token is taken -/
theorem PM.take {w : World} {e0 qb lb g pb mb mc n nc : Nat} {p : PSt} {DC : DataW Value} {lv cmv : Value} {cm : List ByteArray} {s : ByteArray} {x : LI} {rest : List LI} {wr : World} (h : PM w e0 qb lb pb mb mc n nc p DC lv cmv cm wr) (hit : IT lb g s (x :: rest) wr) (es : List Nat) (cs : Array Value) (ne : Nat) (hl : es.length = ne) (hn : ne ≤ 10) (hcs : ∀ (i k : Nat), es[i]? = some k → cs[i]? = some (.int .i64 (k : Int))) :
    Calls Tryz.prog 95 #[.pointer (some ⟨qb, 0, none⟩), .slice (some ⟨wr.heap.size, 0, none⟩) ne ne] (wr.alloc (.cells cs 119)) fun e w' =>
      (x.kind ∈ es → e = .returned (itemV x) ∧ PM w e0 qb lb pb mb mc n nc p DC lv cmv cm w' ∧ (rest ≠ [] → IT lb g s rest w') ∧ wr.heap.size ≤ w'.heap.size ∧ (∀ j, j < wr.heap.size → j ≠ lb → w'.heap[j]? = wr.heap[j]?)) ∧
      (¬ x.kind ∈ es → ∃ N : Nat, e = .panicked [{ v := .iface 194 (.pointer (some ⟨N, 0, none⟩)), recovered := false }] ∧ w'.heap[e0]? = some (.cells #[.nilIface] 67 (0, 0)) ∧ Below w.heap.size w w') := by
  have hb1 : Below wr.heap.size wr (wr.alloc (.cells cs 119)) := (Below.refl _ wr).alloc (Nat.le_refl _) _
  have hz : (wr.alloc (.cells cs 119)).heap.size = wr.heap.size + 1 := by simp
  have h1 := h.below hb1
  have hnew : (wr.alloc (.cells cs 119)).heap[wr.heap.size]? = some (.cells cs 119 (0, 0)) := heap_alloc_new wr _
  obtain ⟨W, hW⟩ : ∃ W, wr.alloc (.cells cs 119) = W := ⟨_, rfl⟩
  rw [hW] at hb1 h1 hnew hz ⊢
  have hit1 := hit.below hb1
  obtain ⟨lc, hlc⟩ := hit1.lex
  refine (hit1.call wr.heap.size es ne hl (by simp [World.cell?, h1.qr]) (fun i k hk => ?_) ⟨_, _, hnew, by decide⟩ hn).mono ?_
  · have := hcs i k hk
    unfold World.cell?
    rw [hnew]
    simpa using this
  · rintro e w' ⟨ha, hb⟩
    have hbw : Below w.heap.size w W := h1.bel
    refine ⟨fun hm => ?_, fun hm => ?_⟩
    · obtain ⟨rfl, hk, hb2, hi, _⟩ := ha hm
      have hb3 : Below w.heap.size w w' := hbw.trans (hb2 _ h.le.2 h1.bel.size)
      refine ⟨rfl, h1.keep (x := lb) (cs := lc) (u := 116) (fun _ => hlc) (.inl rfl) (fun j hj hn => hk.2 j hj hn) hb3, hi, by have := hk.1; omega, fun j hj hn => (hk.2 j (by omega) hn).trans (hb1.block j hj)⟩
    · obtain ⟨N, rfl, hk, hb2⟩ := hb hm
      exact ⟨N, rfl, (hk.2 e0 (lx_lt h1.er) (ne_ty h1.er hlc (by decide))).trans h1.er, hbw.trans (hb2 _ h.le.2 h1.bel.size)⟩
/-- .. and the first time it is put to a new block -/
theorem PM.tok {w : World} {e0 qb lb pb mb mc n nc : Nat} {p : PSt} {DC : DataW Value} {lv cmv : Value} {cm : List ByteArray} {wr w' : World} (h : PM w e0 qb lb pb mb mc n nc p DC lv cmv cm wr) {D : Nat} {cs : Array Value} (hD : wr.heap[D]? = some (.cells cs 121 (0, 0))) (hs : w'.heap.size = wr.heap.size) (hk : ∀ j, j ≠ D → w'.heap[j]? = wr.heap[j]?) (hb : Below w.heap.size w w') : PM w e0 qb lb pb mb mc n nc p DC lv cmv cm w' :=
  h.keep (x := D) (cs := cs) (u := 121) (fun _ => hD) (.inr rfl) (fun j _ hn => hk j hn) hb
theorem pq_cells {B pb mb mc n nc : Nat} {p : PSt} {DC : DataW Value} {lv : Value} {w : World} (h : PQ B pb mb mc n nc p DC lv w) : w.cell? ⟨pb, 3, none⟩ = some (.map (some mb)) ∧ w.cell? ⟨pb, 4, none⟩ = some (.map (some mc)) ∧ w.cell? ⟨pb, 5, none⟩ = some lv ∧ w.frozen? ⟨pb, 5, none⟩ = false := by
  have hb := h.blk
  simp [World.cell?, World.frozen?, hb]
theorem PM.alloc {w : World} {e0 qb lb pb mb mc n nc : Nat} {p : PSt} {DC : DataW Value} {lv cmv : Value} {cm : List ByteArray} {wr : World} (h : PM w e0 qb lb pb mb mc n nc p DC lv cmv cm wr) (o : Obj) : PM w e0 qb lb pb mb mc n nc p DC lv cmv cm (wr.alloc o) := h.below ((Below.refl _ wr).alloc (Nat.le_refl _) _)
theorem IT.alloc {lb g : Nat} {s : ByteArray} {rest : List LI} {w : World} (h : IT lb g s rest w) (o : Obj) : IT lb g s rest (w.alloc o) := h.below ((Below.refl _ w).alloc (Nat.le_refl _) _)
theorem wfI_next {x : LI} {r : List LI} (h : WfI (x :: r)) (hk : 2 ≤ x.kind) : r ≠ [] ∧ WfI r := by
  cases r with
  | nil =>
    have h9 : x.kind < 2 := h
    omega
  | cons y r => exact ⟨List.cons_ne_nil _ _, h.2.2⟩
theorem IT.grown {lb g : Nat} {s : ByteArray} {rest : List LI} {w w' : World} (h : IT lb g s rest w) {B n : Nat} {v : Value} {xs : List Value} (hr : w.ownsRow B 9 1 v n xs) (hg : w.grownBy w' v.ownBlock) : IT lb g s rest w' := by
  obtain ⟨c1, h1⟩ := h.lex
  obtain ⟨c2, h2⟩ := h.row
  refine h.keep (hg.block lb h.lt.1 (fun e => ?_)) (hg.block g h.lt.2 (fun e => ?_))
  · obtain ⟨cs, h3⟩ := row_cells hr e.symm
    exact ne_ty h1 h3 (by decide) rfl
  · obtain ⟨cs, h3⟩ := row_cells hr e.symm
    exact ne_ty h2 h3 (by decide) rfl
theorem IT.grownM {lb g : Nat} {s : ByteArray} {rest : List LI} {w w' : World} (h : IT lb g s rest w) {b : Nat} (hm : ∃ es c, w.heap[b]? = some (.map es c)) (hg : w.grownBy w' (some b)) : IT lb g s rest w' := by
  obtain ⟨c1, h1⟩ := h.lex
  obtain ⟨c2, h2⟩ := h.row
  exact h.keep (hg.block lb h.lt.1 (fun e => ne_map hm h1 (Option.some.inj e).symm)) (hg.block g h.lt.2 (fun e => ne_map hm h2 (Option.some.inj e).symm))
theorem IT.setPb {lb g pb i : Nat} {u : Value} {s : ByteArray} {rest : List LI} {w : World} (h : IT lb g s rest w) {c : Array Value} (hp : w.heap[pb]? = some (.cells c 86 (0, 0))) : IT lb g s rest (w.setCell ⟨pb, i, none⟩ u) := by
  obtain ⟨c1, h1⟩ := h.lex
  obtain ⟨c2, h2⟩ := h.row
  exact h.keep (Below.heap_setCell _ _ _ _ (ne_ty h1 hp (by decide))) (Below.heap_setCell _ _ _ _ (ne_ty h2 hp (by decide)))
theorem PM.keyBlk {w : World} {e0 qb lb pb mb mc n nc : Nat} {p : PSt} {DC : DataW Value} {lv cmv : Value} {cm : List ByteArray} {wr w' : World} (h : PM w e0 qb lb pb mb mc n nc p DC lv cmv cm wr) (hg : wr.grownBy w' lv.ownBlock) :
    w'.heap[pb]? = some (.cells #[.string ⟨#[36, 123]⟩, .string ⟨#[125]⟩, .bool false, .map (some mb), .map (some mc), lv, .string ⟨#[]⟩] 86 (0, 0)) ∧ w'.cell? ⟨pb, 5, none⟩ = some lv ∧ w'.frozen? ⟨pb, 5, none⟩ = false := by
  have hb := (hg.block pb (lx_lt h.pq.blk) (fun e => by
    obtain ⟨cs, h3⟩ := row_cells h.pq.row e.symm
    exact ne_ty h.pq.blk h3 (by decide) rfl)).trans h.pq.blk
  exact ⟨hb, by simp [World.cell?, hb], by simp [World.frozen?, hb]⟩
theorem tok_set {w : World} {D : Nat} {a b c : Value} (hD : w.heap[D]? = some (.cells #[a, b, c] 121 (0, 0))) (x y z : Value) :
    ∃ W, ((w.setCell ⟨D, 0, none⟩ x).setCell ⟨D, 1, none⟩ y).setCell ⟨D, 2, none⟩ z = W ∧ W.heap[D]? = some (.cells #[x, y, z] 121 (0, 0)) ∧ W.heap.size = w.heap.size ∧ (∀ j, j ≠ D → W.heap[j]? = w.heap[j]?) ∧ (∀ B, B ≤ D → Below B w W) := by
  refine ⟨_, rfl, ?_, by simp [World.setCell], fun j hj => ((Below.heap_setCell _ _ _ _ hj).trans (Below.heap_setCell _ _ _ _ hj)).trans (Below.heap_setCell _ _ _ _ hj), fun B hB => (((Below.refl B w).setCell (p := ⟨D, 0, none⟩) hB _).setCell (p := ⟨D, 1, none⟩) hB _).setCell (p := ⟨D, 2, none⟩) hB _⟩
  simp [World.setCell, Array.getElem?_modify, hD]
theorem tok_cells {w : World} {D : Nat} {a b c : Value} (hd : w.heap[D]? = some (.cells #[a, b, c] 121 (0, 0))) : w.cell? ⟨D, 0, none⟩ = some a ∧ w.cell? ⟨D, 1, none⟩ = some b ∧ w.cell? ⟨D, 2, none⟩ = some c ∧ w.frozen? ⟨D, 0, none⟩ = false ∧ w.frozen? ⟨D, 1, none⟩ = false ∧ w.frozen? ⟨D, 2, none⟩ = false := by
  simp [World.cell?, World.frozen?, hd]
end Go.Proofs.YtackciefmdiphaaGreatDoor
