/- The state of NewTranslator's loops in memory, and what each call does to it. -/
import Derived.Test.YtdgaehkfdaacjaaDoorAddG
import Derived.Test.YtdgaehkfdaacjaaDoorUpd
set_option linter.unusedVariables false
namespace Go.Proofs.YtdgaehkfdaacjaaDoor
open Go.RowKit Plain Go.Maps

def fl0 : Int × Bool × Bool × Bool := (0, false, false, false)
structure WS (p0 pb pts pte pst base n : Nat) (x : NT) (d : TD) (vs : Value) (w0 w : World) : Prop where
  nt : NtM p0 pts pte pst n x w
  ok : NtOk x
  tr : ∃ vq vm vr, TrQ base pb vs d fl0 vq vm vr w
  b0 : p0 < base ∧ p0 ≠ pb
  b1 : pts < base ∧ pts ≠ pb
  b2 : pte < base ∧ pte ≠ pb
  b3 : pst < base ∧ pst ≠ pb
  lo : w0.heap.size ≤ p0 ∧ w0.heap.size ≤ pb ∧ w0.heap.size ≤ pts ∧ w0.heap.size ≤ pte ∧ w0.heap.size ≤ pst
  bel : Below w0.heap.size w0 w
section
variable {p0 pb pts pte pst base n : Nat} {x : NT} {d : TD} {vs : Value} {w0 w : World}
theorem WS.cells (h : WS p0 pb pts pte pst base n x d vs w0 w) :
    w.cell? ⟨pts, 0, none⟩ = some (.int .i32 x.ts) ∧ w.cell? ⟨pte, 0, none⟩ = some (.int .i32 x.te) ∧ w.cell? ⟨pst, 0, none⟩ = some (.int .i32 x.tst) ∧
    w.frozen? ⟨pts, 0, none⟩ = false ∧ w.frozen? ⟨pte, 0, none⟩ = false ∧ w.frozen? ⟨pst, 0, none⟩ = false :=
  ⟨cell_of_one h.nt.ts, cell_of_one h.nt.te, cell_of_one h.nt.st, free_of_one h.nt.ts, free_of_one h.nt.te, free_of_one h.nt.st⟩
theorem WS.nums {y : NT} (h : WS p0 pb pts pte pst base n x d vs w0 w) (h1 : y.tp = x.tp) (h2 : y.ts = x.ts) (h3 : y.te = x.te) (h4 : y.tst = x.tst) : WS p0 pb pts pte pst base n y d vs w0 w := by
  obtain ⟨⟨n1, n2, n3, n4, n5, n6, a1, a2, a3, a4⟩, ⟨r1, r2, r3, r4, r5, r6⟩, tr, q0, q1, q2, q3, lo, bel⟩ := h
  exact ⟨⟨n1, n2, n3, n4, n5, n6, by rw [h1]; exact a1, by rw [h2]; exact a2, by rw [h3]; exact a3, by rw [h4]; exact a4⟩, ⟨by rw [h1]; exact r1, by rw [h2]; exact r2, by rw [h2]; exact r3, by rw [h3]; exact r4, by rw [h3]; exact r5, by rw [h2, h3, h4]; exact r6⟩, tr, q0, q1, q2, q3, lo, bel⟩
/-- behind a call that writes the translator alone -/
theorem WS.toTr {d' : TD} {vs' : Value} {vq vm vr : Value} {w' : World} (h : WS p0 pb pts pte pst base n x d vs w0 w) (ht : TrQ base pb vs' d' fl0 vq vm vr w') (k : Keep (fun j => j < base ∧ j ≠ pb) w w') : WS p0 pb pts pte pst base n x d' vs' w0 w' := by
  refine ⟨h.nt.keep k h.b0 h.b1 h.b2 h.b3, h.ok, ⟨vq, vm, vr, ht⟩, h.b0, h.b1, h.b2, h.b3, h.lo, ?_⟩
  obtain ⟨vq0, vm0, vr0, hq⟩ := h.tr
  have h1 := hq.lo
  have h2 := hq.hi
  have h3 := h.bel.size
  have h4 := h.lo
  exact h.bel.trans (k.below (fun j hj => by omega) h3)
/-- behind updateRange -/
theorem WS.toUpd {w' : World} (h : WS p0 pb pts pte pst base n x d vs w0 w) (hm : NtM p0 pts pte pst n (upd x) w') (k : Keep (fun j => j ≠ p0 ∧ j ≠ pts ∧ j ≠ pte ∧ j ≠ pst) w w') : WS p0 pb pts pte pst base n (upd x) d vs w0 w' := by
  obtain ⟨vq, vm, vr, hq⟩ := h.tr
  have h0 := h.b0
  have h1 := h.b1
  have h2 := h.b2
  have h3 := h.b3
  have h4 := h.lo
  exact ⟨hm, upd_ok h.ok, ⟨vq, vm, vr, hq.keep k (by omega) (fun g hg => by omega)⟩, h0, h1, h2, h3, h4, h.bel.trans (k.below (fun j hj => by omega) h.bel.size)⟩
/-- behind a call that makes memory alone -/
theorem WS.toBelow {w' : World} (h : WS p0 pb pts pte pst base n x d vs w0 w) (k : Below w.heap.size w w') : WS p0 pb pts pte pst base n x d vs w0 w' := by
  obtain ⟨vq, vm, vr, hq⟩ := h.tr
  have k' : Keep (fun _ => True) w w' := Keep.of_below k
  exact ⟨h.nt.keep k' trivial trivial trivial trivial, h.ok, ⟨vq, vm, vr, hq.keep k' trivial (fun _ _ => trivial)⟩, h.b0, h.b1, h.b2, h.b3, h.lo, h.bel.trans (k.mono h.bel.size)⟩
/-- behind a store into toStart -/
theorem WS.setTs (h : WS p0 pb pts pte pst base n x d vs w0 w) (v : Int) (ho : NtOk { x with ts := v }) : WS p0 pb pts pte pst base n { x with ts := v } d vs w0 (w.setCell ⟨pts, 0, none⟩ (.int .i32 v)) := by
  obtain ⟨vq, vm, vr, hq⟩ := h.tr
  have h1 := h.b1
  have h4 := h.lo
  have k : Keep (fun j => j ≠ pts) w (w.setCell ⟨pts, 0, none⟩ (.int .i32 v)) := (Keep.refl _ w).setCell (by simp) _
  obtain ⟨n1, n2, n3, n4, n5, n6, ⟨t, a1, a2, a3⟩, b1, b2, b3⟩ := h.nt
  exact ⟨⟨n1, n2, n3, n4, n5, n6, ⟨t, a1, a2, a3.far n1 _⟩, b1.set _, b2.far n4.symm _, b3.far n5.symm _⟩, ho, ⟨vq, vm, vr, hq.keep k (by omega) (fun g hg => by omega)⟩, h.b0, h.b1, h.b2, h.b3, h.lo, h.bel.setCell (by show w0.heap.size ≤ pts; omega) _⟩
def AddCP (p0 pb pts pte pst base n : Nat) (x : NT) (d : TD) (w0 : World) (e : Ending) (w' : World) : Prop := ∃ vs', e = .returned vs' ∧ WS p0 pb pts pte pst base n x d vs' w0 w'
def AddGP (p0 pb pts pte pst base n : Nat) (x : NT) (d : TD) (vs : Value) (r1 r2 : Int) (w0 : World) (e : Ending) (w' : World) : Prop := e = .returned (.tuple #[.int .i32 r1, .int .i32 r2]) ∧ WS p0 pb pts pte pst base n x d vs w0 w'
def UpdCP (p0 pb pts pte pst base n : Nat) (x : NT) (d : TD) (vs : Value) (w0 : World) (e : Ending) (w' : World) : Prop := e = .returned (.tuple #[]) ∧ WS p0 pb pts pte pst base n x d vs w0 w'
theorem WS.addC (h : WS p0 pb pts pte pst base n x d vs w0 w) (a c : Int) (ha0 : 0 ≤ a) (ha1 : a ≤ 1114111) (hc0 : 0 ≤ c) (hc1 : c ≤ 1114111) (hlen : d.sg.length ≤ 10000000000) :
    Calls Tryd.prog 42 #[.pointer (some ⟨pb, 0, none⟩), .int .i32 a, .int .i32 c, vs] w (AddCP p0 pb pts pte pst base n x (put d a c) w0) := by
  obtain ⟨vq, vm, vr, hq⟩ := h.tr
  refine (addRune_any base pb vs d fl0 vq vm vr w hq a ha0 ha1 c (by omega) (by omega) hlen).mono ?_
  rintro e w' ⟨vs', q1, q2, q3, rfl, h1, h2⟩
  exact ⟨vs', rfl, h.toTr h1 h2⟩
theorem WS.addGC (h : WS p0 pb pts pte pst base n x d vs w0 w) (a a2 c c2 : Int) (hl1 : d.sg.length ≤ 10000000000) (hl2 : d.R.length ≤ 10000000000) :
    Calls Tryd.prog 43 #[.pointer (some ⟨pb, 0, none⟩), .int .i32 a, .int .i32 a2, .int .i32 c, .int .i32 c2, vs] w (AddGP p0 pb pts pte pst base n x (putR d a a2 c c2) vs a2 c2 w0) := by
  obtain ⟨vq, vm, vr, hq⟩ := h.tr
  refine (addG_any base pb vs d fl0 vq vm vr w hq a a2 c c2 hl1 hl2).mono ?_
  rintro e w' ⟨rfl, q1, q2, q3, h1, h2⟩
  exact ⟨rfl, h.toTr h1 h2⟩
theorem WS.updC (h : WS p0 pb pts pte pst base n x d vs w0 w) (hT : Tabs w0) (hn : n ≤ 140737488355328) :
    Calls Tryd.prog 39 #[.pointer (some ⟨pte, 0, none⟩), .pointer (some ⟨pst, 0, none⟩), .pointer (some ⟨p0, 0, none⟩), .pointer (some ⟨pts, 0, none⟩)] w (UpdCP p0 pb pts pte pst base n (upd x) d vs w0) := by
  refine (upd_any p0 pts pte pst n x w (hT.below h.bel) h.nt h.ok hn).mono ?_
  rintro e w' ⟨rfl, h1, h2⟩
  exact ⟨rfl, h.toUpd h1 h2⟩
theorem WS.setTe (h : WS p0 pb pts pte pst base n x d vs w0 w) (v : Int) (ho : NtOk { x with te := v }) : WS p0 pb pts pte pst base n { x with te := v } d vs w0 (w.setCell ⟨pte, 0, none⟩ (.int .i32 v)) := by
  obtain ⟨vq, vm, vr, hq⟩ := h.tr
  have h1 := h.b2
  have h4 := h.lo
  have k : Keep (fun j => j ≠ pte) w (w.setCell ⟨pte, 0, none⟩ (.int .i32 v)) := (Keep.refl _ w).setCell (by simp) _
  obtain ⟨n1, n2, n3, n4, n5, n6, ⟨t, a1, a2, a3⟩, b1, b2, b3⟩ := h.nt
  exact ⟨⟨n1, n2, n3, n4, n5, n6, ⟨t, a1, a2, a3.far n2 _⟩, b1.far n4 _, b2.set _, b3.far n6.symm _⟩, ho, ⟨vq, vm, vr, hq.keep k (by omega) (fun g hg => by omega)⟩, h.b0, h.b1, h.b2, h.b3, h.lo, h.bel.setCell (by show w0.heap.size ≤ pte; omega) _⟩
theorem WS.setTp (h : WS p0 pb pts pte pst base n x d vs w0 w) (u : ByteArray) (hu : u.size ≤ n) : WS p0 pb pts pte pst base n { x with tp := rnsL u.data.toList } d vs w0 (w.setCell ⟨p0, 0, none⟩ (.string u)) := by
  obtain ⟨vq, vm, vr, hq⟩ := h.tr
  have h1 := h.b0
  have h4 := h.lo
  have k : Keep (fun j => j ≠ p0) w (w.setCell ⟨p0, 0, none⟩ (.string u)) := (Keep.refl _ w).setCell (by simp) _
  obtain ⟨n1, n2, n3, n4, n5, n6, ⟨t, a1, a2, a3⟩, b1, b2, b3⟩ := h.nt
  obtain ⟨r1, r2, r3, r4, r5, r6⟩ := h.ok
  exact ⟨⟨n1, n2, n3, n4, n5, n6, ⟨u, rfl, hu, a3.set _⟩, b1.far n1.symm _, b2.far n2.symm _, b3.far n3.symm _⟩, ⟨rns_le _, r2, r3, r4, r5, r6⟩, ⟨vq, vm, vr, hq.keep k (by omega) (fun g hg => by omega)⟩, h.b0, h.b1, h.b2, h.b3, h.lo, h.bel.setCell (by show w0.heap.size ≤ p0; omega) _⟩
theorem WS.set4 (h : WS p0 pb pts pte pst base n x d vs w0 w) (y : NT) (u : ByteArray) (hu : u.size ≤ n) (h1 : rnsL u.data.toList = y.tp) (ho : NtOk y) :
    WS p0 pb pts pte pst base n y d vs w0 ((((w.setCell ⟨p0, 0, none⟩ (.string u)).setCell ⟨pts, 0, none⟩ (.int .i32 y.ts)).setCell ⟨pte, 0, none⟩ (.int .i32 y.te)).setCell ⟨pst, 0, none⟩ (.int .i32 y.tst)) := by
  obtain ⟨vq, vm, vr, hq⟩ := h.tr
  have q0 := h.b0
  have q1 := h.b1
  have q2 := h.b2
  have q3 := h.b3
  have q4 := h.lo
  obtain ⟨n1, n2, n3, n4, n5, n6, ⟨t, a1, a2, a3⟩, b1, b2, b3⟩ := h.nt
  obtain ⟨k1, k2⟩ := ntm_set4 n1 n2 n3 n4 n5 n6 a3 b1 b2 b3 u hu y h1
  exact ⟨k1, ho, ⟨vq, vm, vr, hq.keep k2 (by omega) (fun g hg => by omega)⟩, h.b0, h.b1, h.b2, h.b3, h.lo, h.bel.trans (k2.below (fun j hj => by omega) h.bel.size)⟩
theorem WS.cellTo (h : WS p0 pb pts pte pst base n x d vs w0 w) : ∃ u : ByteArray, rnsL u.data.toList = x.tp ∧ u.size ≤ n ∧ w.cell? ⟨p0, 0, none⟩ = some (.string u) ∧ w.frozen? ⟨p0, 0, none⟩ = false := by
  obtain ⟨u, h1, h2, h3⟩ := h.nt.tp
  exact ⟨u, h1, h2, cell_of_one h3, free_of_one h3⟩
end
section
variable {base b : Nat} {vs : Value} {d : TD} {fl : Int × Bool × Bool × Bool} {vq vm vr : Value} {w : World}
theorem TrQ.others (h : TrQ base b vs d fl vq vm vr w) (fl' : Int × Bool × Bool × Bool) (i : Nat) (u : Value) (e : #[vq, vm, vr, .int .i32 fl.1, .bool fl.2.1, .bool fl.2.2.1, .bool fl.2.2.2].setIfInBounds i u = #[vq, vm, vr, .int .i32 fl'.1, .bool fl'.2.1, .bool fl'.2.2.1, .bool fl'.2.2.2]) :
    TrQ base b vs d fl' vq vm vr (w.setCell ⟨b, i, none⟩ u) := by
  have hk : Keep (fun j => j ≠ b) w (w.setCell ⟨b, i, none⟩ u) := (Keep.refl _ _).setCell (by simp) _
  have hlo := h.lo
  refine ⟨hlo, Nat.le_trans h.hi hk.size, ?_, ?_, ?_, ?_, ?_, h.bd⟩
  · rw [← e]
    exact h.setB i u
  · rcases h.q with h1 | ⟨qb, h1, h2, h3⟩
    · exact .inl h1
    · exact .inr ⟨qb, h1, h2, h3.keep (hk.block qb h3.lt (by omega))⟩
  · rcases h.m with h1 | ⟨mb, h1, h2, h3⟩
    · exact .inl h1
    · obtain ⟨es, c, h4⟩ := h3.isM
      exact .inr ⟨mb, h1, h2, h3.keep (hk.block mb (lt_of_block h4) (by omega))⟩
  · exact h.rKeep fun g hg hi => hk.block g (by rcases hi with ⟨cs, hi⟩ | ⟨cs, hi⟩ <;> exact lt_of_block hi) (by omega)
  · refine row_keep h.s fun g hg => ?_
    obtain ⟨k1, cs, k2⟩ := row_is h.s hg
    exact hk.block g (lt_of_block k2) (by omega)
theorem TrQ.set3 (h : TrQ base b vs d fl vq vm vr w) (m : Int) : TrQ base b vs d (m, fl.2) vq vm vr (w.setCell ⟨b, 3, none⟩ (.int .i32 m)) := h.others _ 3 _ rfl
theorem TrQ.set4 (h : TrQ base b vs d fl vq vm vr w) (m : Bool) : TrQ base b vs d (fl.1, m, fl.2.2) vq vm vr (w.setCell ⟨b, 4, none⟩ (.bool m)) := h.others _ 4 _ rfl
theorem TrQ.set5 (h : TrQ base b vs d fl vq vm vr w) (m : Bool) : TrQ base b vs d (fl.1, fl.2.1, m, fl.2.2.2) vq vm vr (w.setCell ⟨b, 5, none⟩ (.bool m)) := h.others _ 5 _ rfl
theorem TrQ.set6 (h : TrQ base b vs d fl vq vm vr w) (m : Bool) : TrQ base b vs d (fl.1, fl.2.1, fl.2.2.1, m) vq vm vr (w.setCell ⟨b, 6, none⟩ (.bool m)) := h.others _ 6 _ rfl
theorem TrQ.flagCells (h : TrQ base b vs d fl vq vm vr w) : (∀ i, w.frozen? ⟨b, i, none⟩ = false) ∧ w.cell? ⟨b, 3, none⟩ = some (.int .i32 fl.1) ∧ w.cell? ⟨b, 4, none⟩ = some (.bool fl.2.1) ∧ w.cell? ⟨b, 5, none⟩ = some (.bool fl.2.2.1) ∧ w.cell? ⟨b, 6, none⟩ = some (.bool fl.2.2.2) :=
  ⟨fun i => by simp [World.frozen?, h.blk], by simp [World.cell?, h.blk], by simp [World.cell?, h.blk], by simp [World.cell?, h.blk], by simp [World.cell?, h.blk]⟩
end
/-- the first state: nothing is kept -/
theorem ws_first (t : ByteArray) (fr : List Nat) (w : World) (W : World) (p0 pb pts pte pst n : Nat) (hn : t.size ≤ n) (e0 : w.heap.size = p0) (e1 : p0 + 1 = pb) (e2 : pb + 1 = pts) (e3 : pts + 1 = pte) (e4 : pte + 1 = pst)
    (hW : ((((w.alloc (.cells #[.string t] 9)).alloc (.cells #[.pointer none, .map none, .slice none 0 0, .int .i32 0, .bool false, .bool false, .bool false] 58)).alloc (.cells #[.int .i32 0] 21)).alloc (.cells #[.int .i32 0] 21)).alloc (.cells #[.int .i32 0] 21) = W) :
    WS p0 pb pts pte pst (pst + 1) n ⟨fr, 0, -1, 0, rnsL t.data.toList, 0, 0, 0⟩ td0 (.slice none 0 0) w W := by
  have z1 : W.heap.size = pst + 1 := by rw [← hW]; simp; omega
  have g0 : W.heap[p0]? = some (.cells #[.string t] 9 (0, 0)) := by
    rw [← hW, Below.heap_alloc _ _ _ (by simp; omega), Below.heap_alloc _ _ _ (by simp; omega), Below.heap_alloc _ _ _ (by simp; omega), Below.heap_alloc _ _ _ (by simp; omega), ← e0]
    exact heap_alloc_new w _
  have g1 : W.heap[pb]? = some (.cells #[.pointer none, .map none, .slice none 0 0, .int .i32 0, .bool false, .bool false, .bool false] 58 (0, 0)) := by
    rw [← hW, Below.heap_alloc _ _ _ (by simp; omega), Below.heap_alloc _ _ _ (by simp; omega), Below.heap_alloc _ _ _ (by simp; omega)]
    have := heap_alloc_new (w.alloc (.cells #[.string t] 9)) (.cells #[.pointer none, .map none, .slice none 0 0, .int .i32 0, .bool false, .bool false, .bool false] 58)
    rwa [show (w.alloc (.cells #[.string t] 9)).heap.size = pb by simp; omega] at this
  have g2 : W.heap[pts]? = some (.cells #[.int .i32 0] 21 (0, 0)) := by
    rw [← hW, Below.heap_alloc _ _ _ (by simp; omega), Below.heap_alloc _ _ _ (by simp; omega)]
    have := heap_alloc_new ((w.alloc (.cells #[.string t] 9)).alloc (.cells #[.pointer none, .map none, .slice none 0 0, .int .i32 0, .bool false, .bool false, .bool false] 58)) (.cells #[.int .i32 0] 21)
    rwa [show ((w.alloc (.cells #[.string t] 9)).alloc (.cells #[.pointer none, .map none, .slice none 0 0, .int .i32 0, .bool false, .bool false, .bool false] 58)).heap.size = pts by simp; omega] at this
  have g3 : W.heap[pte]? = some (.cells #[.int .i32 0] 21 (0, 0)) := by
    rw [← hW, Below.heap_alloc _ _ _ (by simp; omega)]
    have := heap_alloc_new (((w.alloc (.cells #[.string t] 9)).alloc (.cells #[.pointer none, .map none, .slice none 0 0, .int .i32 0, .bool false, .bool false, .bool false] 58)).alloc (.cells #[.int .i32 0] 21)) (.cells #[.int .i32 0] 21)
    rwa [show (((w.alloc (.cells #[.string t] 9)).alloc (.cells #[.pointer none, .map none, .slice none 0 0, .int .i32 0, .bool false, .bool false, .bool false] 58)).alloc (.cells #[.int .i32 0] 21)).heap.size = pte by simp; omega] at this
  have g4 : W.heap[pst]? = some (.cells #[.int .i32 0] 21 (0, 0)) := by
    rw [← hW]
    have := heap_alloc_new ((((w.alloc (.cells #[.string t] 9)).alloc (.cells #[.pointer none, .map none, .slice none 0 0, .int .i32 0, .bool false, .bool false, .bool false] 58)).alloc (.cells #[.int .i32 0] 21)).alloc (.cells #[.int .i32 0] 21)) (.cells #[.int .i32 0] 21)
    rwa [show ((((w.alloc (.cells #[.string t] 9)).alloc (.cells #[.pointer none, .map none, .slice none 0 0, .int .i32 0, .bool false, .bool false, .bool false] 58)).alloc (.cells #[.int .i32 0] 21)).alloc (.cells #[.int .i32 0] 21)).heap.size = pst by simp; omega] at this
  refine ⟨⟨by omega, by omega, by omega, by omega, by omega, by omega, ⟨t, rfl, hn, g0⟩, g2, g3, g4⟩, ⟨rns_le _, by simp, by simp, by simp, by simp, .inl rfl⟩, ⟨.pointer none, .map none, .slice none 0 0, ?_⟩, by omega, by omega, by omega, by omega, by omega, ?_⟩
  · refine ⟨by omega, by omega, g1, .inl ⟨rfl, fun _ _ => rfl, fun r hr => by simp [td0] at hr⟩, .inl ⟨rfl, fun _ _ _ => rfl, fun r hr => by simp [td0] at hr⟩, ⟨[], rfl, fun i g x hg => by simp at hg, ?_⟩, ?_, fun r hr => by simp [td0] at hr⟩
    · exact World.ownsRow_nil _ _ _ _
    · exact World.ownsRow_nil _ _ _ _
  · rw [← hW]
    exact (((((Below.refl _ w).alloc (Nat.le_refl _) _).alloc (by simp) _).alloc (by simp; omega) _).alloc (by simp; omega) _).alloc (by simp; omega) _
end Go.Proofs.YtdgaehkfdaacjaaDoor
