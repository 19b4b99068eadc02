/- How NewTranslator's state lies in memory. -/
import Derived.Test.YtdgaehkfdaacjaaDoorNrr
import Derived.OneCell
import Derived.Maps.OwnSet
import Derived.Maps.AppendAt
import Derived.Laws.Rows
set_option linter.unusedVariables false
namespace Go.Proofs.YtdgaehkfdaacjaaDoor
open Go.RowKit Plain

/-- the streams stand, no block goes, and the blocks of which 'p' is true stand -/
structure Keep (p : Nat → Prop) (w w' : World) : Prop where
  os : w'.os = w.os
  tape : w'.tape = w.tape
  output : w'.output = w.output
  size : w.heap.size ≤ w'.heap.size
  block : ∀ k, k < w.heap.size → p k → w'.heap[k]? = w.heap[k]?
theorem Keep.refl (p : Nat → Prop) (w : World) : Keep p w w := ⟨rfl, rfl, rfl, Nat.le_refl _, fun _ _ _ => rfl⟩
theorem Keep.trans {p : Nat → Prop} {a b c : World} (h : Keep p a b) (k : Keep p b c) : Keep p a c :=
  ⟨k.os.trans h.os, k.tape.trans h.tape, k.output.trans h.output, Nat.le_trans h.size k.size, fun i hi hp => (k.block i (Nat.lt_of_lt_of_le hi h.size) hp).trans (h.block i hi hp)⟩
theorem Keep.mono {p q : Nat → Prop} {a b : World} (h : Keep p a b) (hq : ∀ k, k < a.heap.size → q k → p k) : Keep q a b := ⟨h.os, h.tape, h.output, h.size, fun i hi hp => h.block i hi (hq i hi hp)⟩
theorem Keep.of_below {p : Nat → Prop} {w w' : World} (h : Below w.heap.size w w') : Keep p w w' := ⟨h.os, h.tape, h.output, h.size, fun k hk _ => h.block k hk⟩
theorem Keep.alloc {p : Nat → Prop} {a w : World} (h : Keep p a w) (o : Obj) : Keep p a (w.alloc o) := h.trans (Keep.of_below ((Below.refl _ w).alloc (Nat.le_refl _) o))
theorem Keep.setCell {p : Nat → Prop} {a w : World} (h : Keep p a w) {q : Addr} (hq : ¬ p q.block) (u : Value) : Keep p a (w.setCell q u) :=
  h.trans ⟨rfl, rfl, rfl, by simp [World.setCell], fun k _ hp => Below.heap_setCell _ _ _ _ (fun e => hq (e ▸ hp))⟩
theorem Keep.grown {p : Nat → Prop} {a w w' : World} {row : Option Nat} (h : Keep p a w) (hg : w.grownBy w' row) (hr : ∀ k, row = some k → ¬ p k) : Keep p a w' :=
  h.trans ⟨hg.os, hg.tape, hg.output, hg.size, fun k hk hp => hg.block k hk (fun e => hr k e.symm hp)⟩
theorem Keep.below {p : Nat → Prop} {B : Nat} {w w' : World} (h : Keep p w w') (hp : ∀ k, k < B → p k) (hB : B ≤ w.heap.size) : Below B w w' := ⟨h.os, h.tape, h.output, h.size, fun k hk => h.block k (by omega) (hp k hk)⟩

/-- a block of one cell -/
def One (w : World) (p : Nat) (T : TypeId) (v : Value) : Prop := w.heap[p]? = some (.cells #[v] T (0, 0))
theorem One.lt {w : World} {p : Nat} {T : TypeId} {v : Value} (h : One w p T v) : p < w.heap.size := lt_of_block h
theorem One.keep {w w' : World} {p : Nat} {T : TypeId} {v : Value} {q : Nat → Prop} (h : One w p T v) (k : Keep q w w') (hq : q p) : One w' p T v := (k.block p h.lt hq).trans h
theorem One.far {w : World} {p : Nat} {T : TypeId} {v : Value} (h : One w p T v) {a : Addr} (ha : p ≠ a.block) (u : Value) : One (w.setCell a u) p T v := (Below.heap_setCell w a u p ha).trans h
theorem One.set {w : World} {p : Nat} {T : TypeId} {v : Value} (h : One w p T v) (u : Value) : One (w.setCell ⟨p, 0, none⟩ u) p T u := one_setCell h

/-- the second pattern's state in the captured variables -/
structure NtM (pto pts pte pst n : Nat) (x : NT) (w : World) : Prop where
  n1 : pto ≠ pts
  n2 : pto ≠ pte
  n3 : pto ≠ pst
  n4 : pts ≠ pte
  n5 : pts ≠ pst
  n6 : pte ≠ pst
  tp : ∃ t : ByteArray, rnsL t.data.toList = x.tp ∧ t.size ≤ n ∧ One w pto 9 (.string t)
  ts : One w pts 21 (.int .i32 x.ts)
  te : One w pte 21 (.int .i32 x.te)
  st : One w pst 21 (.int .i32 x.tst)
theorem NtM.keep {pto pts pte pst n : Nat} {x : NT} {w w' : World} {q : Nat → Prop} (h : NtM pto pts pte pst n x w) (k : Keep q w w') (h1 : q pto) (h2 : q pts) (h3 : q pte) (h4 : q pst) : NtM pto pts pte pst n x w' := by
  obtain ⟨t, ht, hn, ho⟩ := h.tp
  exact ⟨h.n1, h.n2, h.n3, h.n4, h.n5, h.n6, ⟨t, ht, hn, ho.keep k h1⟩, h.ts.keep k h2, h.te.keep k h3, h.st.keep k h4⟩
/-- the second pattern's state is as it may be -/
structure NtOk (x : NT) : Prop where
  rs : ∀ r ∈ x.tp, r ≤ 1114111
  s0 : 0 ≤ x.ts
  s1 : x.ts ≤ 1114111
  e0 : -1 ≤ x.te
  e1 : x.te ≤ 1114111
  st : x.tst = 0 ∨ x.tst = 1 ∧ (x.te = -1 ∨ x.ts ≤ x.te) ∨ x.tst = -1 ∧ (x.te = -1 ∨ 0 ≤ x.te ∧ x.te ≤ x.ts)
theorem upd_ok {x : NT} (h : NtOk x) : NtOk (upd x) := by
  unfold upd
  split
  · exact h
  · rename_i h1
    split
    · have k := nrr_ok h.rs h.e0 h.e1
      exact ⟨k.rs, k.s0, k.s1, k.e0, k.e1, by have := k.st; simp only; omega⟩
    · rename_i h2
      split
      · rename_i h3
        have := h.st
        have h5 := h.s0
        have h6 := h.s1
        have h7 := h.e1
        exact ⟨h.rs, by simp only; omega, by simp only; omega, h.e0, h.e1, by simp only; omega⟩
      · split
        · have := h.st
          exact ⟨h.rs, h.s0, h.s1, by simp, by simp, by rcases h.st with h | h | h; exact .inl h; exact .inr (.inl ⟨h.1, .inl rfl⟩); exact .inr (.inr ⟨h.1, .inl rfl⟩)⟩
        · have k := nrr_ok (last := -1) h.rs (by omega) (by omega)
          exact ⟨k.rs, k.s0, k.s1, k.e0, k.e1, by have := k.st; simp only; omega⟩
theorem upd_fr (x : NT) : (upd x).fr = x.fr ∧ (upd x).fs = x.fs ∧ (upd x).fe = x.fe ∧ (upd x).fst = x.fst := by
  unfold upd
  repeat' split
  all_goals exact ⟨rfl, rfl, rfl, rfl⟩
theorem rns_le (l : List UInt8) : ∀ r ∈ rnsL l, r ≤ 1114111 := by
  intro r hr
  unfold rnsL at hr
  obtain ⟨c, hc, rfl⟩ := List.mem_map.1 hr
  exact Lib.decodeL_rune c
theorem rns_nil {t : ByteArray} : rnsL t.data.toList = [] ↔ t.size = 0 := by
  constructor
  · intro h
    by_cases h0 : 0 < t.size
    · obtain ⟨R, K, hh⟩ := head_of t h0
      rw [rns_step t R K hh] at h
      cases h
    · omega
  · intro h
    exact rns_empty t (by omega)
end Go.Proofs.YtdgaehkfdaacjaaDoor
