/- What a translator holds, in memory: single characters, ranges. -/
import Derived.Test.YtdgaehkfdaacjaaDoorTrMem
import Derived.WideLaws
set_option linter.unusedVariables false
namespace Go.Proofs.YtdgaehkfdaacjaaDoor
open Go.RowKit Plain

def QuickIs (qb : Nat) (S : Int → Option Int) (w : World) : Prop :=
  ∃ cs : Array Value, w.heap[qb]? = some (.cells cs 87 (0, 0)) ∧ cs.size = 256 ∧ ∀ r : Nat, r < 128 → cs[r]? = some (.int .i32 ((S r).getD 0)) ∧ cs[128 + r]? = some (.bool (S r).isSome)
/-- the characters that the map keeps -/
def wide (S : Int → Option Int) (r : Int) : Option Int := if 127 < r then S r else none
def MapIs (mb n : Nat) (S : Int → Option Int) (w : World) : Prop :=
  ∃ D : DataW Unit, w.ownsMap Tryd.prog 21 (plainElem Tryd.prog 21) mb n D ∧ ∀ r : Int, 0 ≤ r → r ≤ 1114111 → Maps.has D (.int .i32 r) = (wide S r).isSome ∧ D.atKey (.int .i32 r) (.lit (.int .i32 0)) = .lit (.int .i32 ((wide S r).getD 0))
def RngIs (g : Nat) (x : Int × Int × Int × Int) (w : World) : Prop :=
  w.heap[g]? = some (.cells #[.int .i32 x.1, .int .i32 x.2.1, .int .i32 x.2.2.1, .int .i32 x.2.2.2] 90 (0, 0))
theorem QuickIs.keep {qb : Nat} {S : Int → Option Int} {w w' : World} (h : QuickIs qb S w) (e : w'.heap[qb]? = w.heap[qb]?) : QuickIs qb S w' := by
  obtain ⟨cs, h1, h2⟩ := h
  exact ⟨cs, e.trans h1, h2⟩
theorem QuickIs.same {qb : Nat} {S S' : Int → Option Int} {w : World} (h : QuickIs qb S w) (e : ∀ r : Nat, r < 128 → S' r = S r) : QuickIs qb S' w := by
  obtain ⟨cs, h1, h2, h3⟩ := h
  exact ⟨cs, h1, h2, fun r hr => by rw [e r hr]; exact h3 r hr⟩
theorem QuickIs.lt {qb : Nat} {S : Int → Option Int} {w : World} (h : QuickIs qb S w) : qb < w.heap.size := by
  obtain ⟨cs, h1, _⟩ := h
  exact lt_of_block h1
theorem MapIs.keep {mb n : Nat} {S : Int → Option Int} {w w' : World} (h : MapIs mb n S w) (e : w'.heap[mb]? = w.heap[mb]?) : MapIs mb n S w' := by
  obtain ⟨D, ⟨es, clock, hb, r⟩, h2⟩ := h
  exact ⟨D, ⟨es, clock, e.trans hb, r⟩, h2⟩
theorem MapIs.same {mb n : Nat} {S S' : Int → Option Int} {w : World} (h : MapIs mb n S w) (e : ∀ r : Int, 127 < r → r ≤ 1114111 → S' r = S r) : MapIs mb n S' w := by
  obtain ⟨D, h1, h2⟩ := h
  refine ⟨D, h1, fun r h3 h4 => ?_⟩
  have e2 : wide S' r = wide S r := by
    unfold wide
    split
    · exact e r (by assumption) h4
    · rfl
  rw [e2]
  exact h2 r h3 h4
theorem MapIs.mono {mb n n' : Nat} {S : Int → Option Int} {w : World} (h : MapIs mb n S w) (hn : n ≤ n') : MapIs mb n' S w := by
  obtain ⟨D, h1, h2⟩ := h
  exact ⟨D, h1.mono hn, h2⟩
theorem MapIs.isM {mb n : Nat} {S : Int → Option Int} {w : World} (h : MapIs mb n S w) : ∃ es c, w.heap[mb]? = some (.map es c) := by
  obtain ⟨D, ⟨es, clock, hb, r⟩, h2⟩ := h
  exact ⟨es, clock, hb⟩
theorem row_keep {w w' : World} {base : Nat} {e : TypeId} {size : Nat} {v : Value} {n : Nat} {xs : List Value} (h : w.ownsRow base e size v n xs) (k : ∀ g, v.ownBlock = some g → w'.heap[g]? = w.heap[g]?) : w'.ownsRow base e size v n xs := by
  refine ⟨h.1, ?_⟩
  rcases h.2 with hn | ⟨g, cap, cur, rfl, hb, hgg, rest⟩
  · exact .inl hn
  · exact .inr ⟨g, cap, cur, rfl, hb, (k g rfl).trans hgg, rest⟩
theorem row_is {w : World} {base : Nat} {e : TypeId} {size : Nat} {v : Value} {n : Nat} {xs : List Value} (h : w.ownsRow base e size v n xs) {g : Nat} (hg : v.ownBlock = some g) : base ≤ g ∧ ∃ cs, w.heap[g]? = some (.cells cs e (0, 0)) := by
  rcases h.2 with ⟨rfl, _⟩ | ⟨g', cap, cur, rfl, hb, hgg, rest⟩
  · simp [Value.ownBlock] at hg
  · simp [Value.ownBlock] at hg
    subst hg
    exact ⟨hb, cur, hgg⟩

/-- block 'b' is a translator that holds 'd'; 'vs': the row of the single characters -/
structure TrQ (base b : Nat) (vs : Value) (d : TD) (fl : Int × Bool × Bool × Bool) (vq vm vr : Value) (w : World) : Prop where
  lo : b < base
  hi : base ≤ w.heap.size
  blk : w.heap[b]? = some (.cells #[vq, vm, vr, .int .i32 fl.1, .bool fl.2.1, .bool fl.2.2.1, .bool fl.2.2.2] 58 (0, 0))
  q : (vq = .pointer none ∧ (∀ r : Nat, r < 128 → d.S r = none) ∧ ∀ r ∈ d.sg, 127 < r) ∨ ∃ qb, vq = .pointer (some ⟨qb, 0, none⟩) ∧ base ≤ qb ∧ QuickIs qb d.S w
  m : (vm = .map none ∧ (∀ r : Int, 127 < r → r ≤ 1114111 → d.S r = none) ∧ ∀ r ∈ d.sg, r ≤ 127) ∨ ∃ mb, vm = .map (some mb) ∧ base ≤ mb ∧ MapIs mb d.sg.length d.S w
  r : ∃ gs : List Nat, gs.length = d.R.length ∧ (∀ (i g : Nat) (x : Int × Int × Int × Int), gs[i]? = some g → d.R[i]? = some x → base ≤ g ∧ RngIs g x w) ∧ w.ownsRow base 88 1 vr d.R.length (gs.map fun g => .pointer (some ⟨g, 0, none⟩))
  s : w.ownsRow base 21 1 vs d.sg.length (d.sg.map (Value.int .i32))
  bd : ∀ r ∈ d.sg, 0 ≤ r ∧ r ≤ 1114111

section
variable {base b : Nat} {vs : Value} {d : TD} {fl : Int × Bool × Bool × Bool} {vq vm vr : Value} {w w' : World} {p : Nat → Prop}
/-- the ranges stand -/
theorem TrQ.rKeep (h : TrQ base b vs d fl vq vm vr w) (e : ∀ g, base ≤ g → (∃ cs, w.heap[g]? = some (.cells cs 88 (0, 0))) ∨ (∃ cs, w.heap[g]? = some (.cells cs 90 (0, 0))) → w'.heap[g]? = w.heap[g]?) :
    ∃ gs : List Nat, gs.length = d.R.length ∧ (∀ (i g : Nat) (x : Int × Int × Int × Int), gs[i]? = some g → d.R[i]? = some x → base ≤ g ∧ RngIs g x w') ∧ w'.ownsRow base 88 1 vr d.R.length (gs.map fun g => .pointer (some ⟨g, 0, none⟩)) := by
  obtain ⟨gs, h1, h2, h3⟩ := h.r
  refine ⟨gs, h1, fun i g x hg hx => ⟨(h2 i g x hg hx).1, (e g (h2 i g x hg hx).1 (.inr ⟨_, (h2 i g x hg hx).2⟩)).trans (h2 i g x hg hx).2⟩, row_keep h3 fun g hg => ?_⟩
  obtain ⟨k1, cs, k2⟩ := row_is h3 hg
  exact e g k1 (.inl ⟨cs, k2⟩)
theorem TrQ.keep (h : TrQ base b vs d fl vq vm vr w) (k : Keep p w w') (hb : p b) (hp : ∀ g, base ≤ g → p g) : TrQ base b vs d fl vq vm vr w' := by
  have e : ∀ g, base ≤ g → g < w.heap.size → w'.heap[g]? = w.heap[g]? := fun g hg hlt => k.block g hlt (hp g hg)
  refine ⟨h.lo, Nat.le_trans h.hi k.size, (k.block b (Nat.lt_of_lt_of_le h.lo h.hi) hb).trans h.blk, ?_, ?_, ?_, ?_, h.bd⟩
  · rcases h.q with h1 | ⟨qb, h1, h2, h3⟩
    · exact .inl h1
    · exact .inr ⟨qb, h1, h2, h3.keep (e qb h2 h3.lt)⟩
  · rcases h.m with h1 | ⟨mb, h1, h2, h3⟩
    · exact .inl h1
    · obtain ⟨es, c, h4⟩ := h3.isM
      exact .inr ⟨mb, h1, h2, h3.keep (e mb h2 (lt_of_block h4))⟩
  · exact h.rKeep fun g hg hi => e g hg (by rcases hi with ⟨cs, hi⟩ | ⟨cs, hi⟩ <;> exact lt_of_block hi)
  · refine row_keep h.s fun g hg => ?_
    obtain ⟨k1, cs, k2⟩ := row_is h.s hg
    exact e g k1 (lt_of_block k2)
end

theorem zeroDict_eq : Tryd.zeroCells87 = (List.replicate 128 (Value.int .i32 0) ++ List.replicate 128 (Value.bool false)).toArray := by kernel_rfl
theorem zeroDict : Tryd.zeroCells87.size = 256 ∧ ∀ r : Nat, r < 128 → Tryd.zeroCells87[r]? = some (.int .i32 0) ∧ Tryd.zeroCells87[128 + r]? = some (.bool false) := by
  rw [zeroDict_eq]
  refine ⟨by rw [List.size_toArray, List.length_append, List.length_replicate, List.length_replicate], fun r hr => ⟨?_, ?_⟩⟩
  · rw [List.getElem?_toArray, List.getElem?_append_left (by rw [List.length_replicate]; exact hr), List.getElem?_replicate, if_pos hr]
  · rw [List.getElem?_toArray, List.getElem?_append_right (by rw [List.length_replicate]; omega), List.getElem?_replicate, if_pos (by rw [List.length_replicate]; omega)]

section
variable {base b : Nat} {vs : Value} {d : TD} {fl : Int × Bool × Bool × Bool} {vq vm vr : Value} {w w' : World}
theorem TrQ.setB (h : TrQ base b vs d fl vq vm vr w) (i : Nat) (u : Value) : (w.setCell ⟨b, i, none⟩ u).heap[b]? = some (.cells (#[vq, vm, vr, .int .i32 fl.1, .bool fl.2.1, .bool fl.2.2.1, .bool fl.2.2.2].setIfInBounds i u) 58 (0, 0)) := by
  simp only [World.setCell, Array.getElem?_modify, if_true, h.blk, Option.map_some]
  rfl
/-- a quick dictionary is made -/
theorem TrQ.quick (h : TrQ base b vs d fl (.pointer none) vm vr w) :
    TrQ base b vs d fl (.pointer (some ⟨w.heap.size, 0, none⟩)) vm vr ((w.setCell ⟨b, 0, none⟩ (.pointer (some ⟨w.heap.size, 0, none⟩))).alloc (.cells Tryd.zeroCells87 87)) ∧
    Keep (fun j => j ≠ b) w ((w.setCell ⟨b, 0, none⟩ (.pointer (some ⟨w.heap.size, 0, none⟩))).alloc (.cells Tryd.zeroCells87 87)) := by
  have hlt : b < w.heap.size := Nat.lt_of_lt_of_le h.lo h.hi
  have hk : Keep (fun j => j ≠ b) w ((w.setCell ⟨b, 0, none⟩ (.pointer (some ⟨w.heap.size, 0, none⟩))).alloc (.cells Tryd.zeroCells87 87)) := ((Keep.refl _ _).setCell (by simp) _).alloc _
  refine ⟨⟨h.lo, Nat.le_trans h.hi hk.size, ?_, ?_, ?_, ?_, ?_, h.bd⟩, hk⟩
  · rw [Below.heap_alloc _ _ _ (by simpa [World.setCell] using hlt)]
    exact h.setB 0 _
  · refine .inr ⟨_, rfl, h.hi, ⟨_, ?_, zeroDict.1, fun r hr => ?_⟩⟩
    · have := heap_alloc_new (w.setCell ⟨b, 0, none⟩ (.pointer (some ⟨w.heap.size, 0, none⟩))) (.cells Tryd.zeroCells87 87)
      simpa [World.setCell] using this
    · rcases h.q with ⟨_, h1, _⟩ | ⟨qb, h1, _⟩
      · rw [h1 r hr]
        exact zeroDict.2 r hr
      · cases h1
  · rcases h.m with h1 | ⟨mb, h1, h2, h3⟩
    · exact .inl h1
    · obtain ⟨es, c, h4⟩ := h3.isM
      exact .inr ⟨mb, h1, h2, h3.keep (hk.block mb (lt_of_block h4) (by have := h.lo; omega))⟩
  · exact h.rKeep fun g hg hi => hk.block g (by rcases hi with ⟨cs, hi⟩ | ⟨cs, hi⟩ <;> exact lt_of_block hi) (by have := h.lo; omega)
  · refine row_keep h.s fun g hg => ?_
    obtain ⟨k1, cs, k2⟩ := row_is h.s hg
    exact hk.block g (lt_of_block k2) (by have := h.lo; omega)
/-- a map is made -/
theorem TrQ.map (h : TrQ base b vs d fl vq (.map none) vr w) :
    TrQ base b vs d fl vq (.map (some w.heap.size)) vr ((w.setCell ⟨b, 1, none⟩ (.map (some w.heap.size))).alloc (.map #[] 0)) ∧
    Keep (fun j => j ≠ b) w ((w.setCell ⟨b, 1, none⟩ (.map (some w.heap.size))).alloc (.map #[] 0)) := by
  have hlt : b < w.heap.size := Nat.lt_of_lt_of_le h.lo h.hi
  have hk : Keep (fun j => j ≠ b) w ((w.setCell ⟨b, 1, none⟩ (.map (some w.heap.size))).alloc (.map #[] 0)) := ((Keep.refl _ _).setCell (by simp) _).alloc _
  refine ⟨⟨h.lo, Nat.le_trans h.hi hk.size, ?_, ?_, ?_, ?_, ?_, h.bd⟩, hk⟩
  · rw [Below.heap_alloc _ _ _ (by simpa [World.setCell] using hlt)]
    exact h.setB 1 _
  · rcases h.q with h1 | ⟨qb, h1, h2, h3⟩
    · exact .inl h1
    · exact .inr ⟨qb, h1, h2, h3.keep (hk.block qb h3.lt (by have := h.lo; omega))⟩
  · refine .inr ⟨_, rfl, h.hi, ⟨.map [], ?_, fun r h1 h2 => ?_⟩⟩
    · have := World.ownsMap_made (H := Unit) (w.setCell ⟨b, 1, none⟩ (.map (some w.heap.size))) Tryd.prog 21 (plainElem Tryd.prog 21)
      have e : (w.setCell ⟨b, 1, none⟩ (.map (some w.heap.size))).heap.size = w.heap.size := by simp [World.setCell]
      rw [e] at this
      exact this.mono (Nat.zero_le _)
    · rcases h.m with ⟨_, h3, _⟩ | ⟨mb, h3, _⟩
      · have e2 : wide d.S r = none := by
          unfold wide
          split
          · exact h3 r (by assumption) h2
          · rfl
        rw [e2]
        exact ⟨rfl, rfl⟩
      · cases h3
  · exact h.rKeep fun g hg hi => hk.block g (by rcases hi with ⟨cs, hi⟩ | ⟨cs, hi⟩ <;> exact lt_of_block hi) (by have := h.lo; omega)
  · refine row_keep h.s fun g hg => ?_
    obtain ⟨k1, cs, k2⟩ := row_is h.s hg
    exact hk.block g (lt_of_block k2) (by have := h.lo; omega)
theorem is_ne {w : World} {g g' : Nat} {t t' : TypeId} (h : ∃ cs, w.heap[g]? = some (.cells cs t (0, 0))) (h' : ∃ cs, w.heap[g']? = some (.cells cs t' (0, 0))) (hne : t ≠ t') : g ≠ g' := by
  rintro rfl
  obtain ⟨cs, h⟩ := h
  obtain ⟨cs', h'⟩ := h'
  rw [h] at h'
  injection h' with h'
  injection h' with _ ht
  exact hne ht
theorem is_neM {w : World} {g g' : Nat} {t : TypeId} (h : ∃ cs, w.heap[g]? = some (.cells cs t (0, 0))) (h' : ∃ es c, w.heap[g']? = some (.map es c)) : g ≠ g' := by
  rintro rfl
  obtain ⟨cs, h⟩ := h
  obtain ⟨es, c, h'⟩ := h'
  rw [h] at h'
  cases h'
/-- a single character of ASCII is put in -/
theorem TrQ.putQ {qb a : Nat} {c : Int} {vs' : Value} (h : TrQ base b vs d fl (.pointer (some ⟨qb, 0, none⟩)) vm vr w) (ha : a < 128)
    (hown : w'.ownsRow base 21 1 vs' (d.sg.length + 1) (d.sg.map (Value.int .i32) ++ [.int .i32 (a : Int)]))
    (hg : (((w.setCell ⟨qb, a, none⟩ (.int .i32 c)).setCell ⟨qb, 128 + a, none⟩ (.bool true)).alloc (.cells #[.int .i32 (a : Int)] 21)).grownBy w' vs.ownBlock) :
    TrQ base b vs' (put d a c) fl (.pointer (some ⟨qb, 0, none⟩)) vm vr w' ∧ Keep (fun j => j < base ∧ j ≠ b) w w' := by
  have hlo := h.lo
  obtain ⟨qb', hq1, hq2, hq3⟩ : ∃ qb', Value.pointer (some ⟨qb, 0, none⟩) = .pointer (some ⟨qb', 0, none⟩) ∧ base ≤ qb' ∧ QuickIs qb' d.S w := by
    rcases h.q with ⟨h1, _⟩ | h1
    · cases h1
    · exact h1
  obtain rfl : qb = qb' := by injection hq1 with e; injection e with e; injection e
  obtain ⟨cs, k1, k2, k3⟩ := hq3
  have hbs : w.heap[b]? = some (.cells #[.pointer (some ⟨qb, 0, none⟩), vm, vr, .int .i32 fl.1, .bool fl.2.1, .bool fl.2.2.1, .bool fl.2.2.2] 58 (0, 0)) := h.blk
  have hqlt := lt_of_block k1
  have hvs : ∀ g, vs.ownBlock = some g → base ≤ g ∧ g ≠ qb := fun g hg => ⟨(row_is h.s hg).1, is_ne (row_is h.s hg).2 ⟨cs, k1⟩ (by decide)⟩
  have hsz : ((w.setCell ⟨qb, a, none⟩ (.int .i32 c)).setCell ⟨qb, 128 + a, none⟩ (.bool true)).heap.size = w.heap.size := by simp [World.setCell]
  have hk : ∀ g, g < w.heap.size → g ≠ qb → vs.ownBlock ≠ some g → w'.heap[g]? = w.heap[g]? := fun g hl hne hv => by
    rw [hg.block g (by simp [World.setCell]; omega) (fun e => hv e.symm), Below.heap_alloc _ _ _ (by omega), Below.heap_setCell _ _ _ _ hne, Below.heap_setCell _ _ _ _ hne]
  have hqv : vs.ownBlock ≠ some qb := fun e => (hvs qb e).2 rfl
  have hq' : w'.heap[qb]? = some (.cells ((cs.setIfInBounds a (.int .i32 c)).setIfInBounds (128 + a) (.bool true)) 87 (0, 0)) := by
    rw [hg.block qb (by simp [World.setCell]; omega) (fun e => hqv e.symm), Below.heap_alloc _ _ _ (by omega)]
    simp [World.setCell, Array.getElem?_modify, k1]
  have hsize : w.heap.size ≤ w'.heap.size := by have := hg.size; simp [World.setCell] at this; omega
  refine ⟨⟨hlo, Nat.le_trans h.hi hsize, ?_, .inr ⟨qb, rfl, hq2, ?_⟩, ?_, ?_, ?_, ?_⟩, ⟨hg.os, hg.tape, hg.output, hsize, fun j hj hjb => ?_⟩⟩
  · rw [hk b (lt_of_block hbs) (by omega) (fun e => by have := (hvs b e).1; omega)]
    exact hbs
  · refine ⟨_, hq', by simp [k2], fun r hr => ?_⟩
    have e := k3 r hr
    by_cases hra : r = a
    · subst hra
      simp only [put, if_true, Option.getD_some, Option.isSome_some]
      constructor
      · rw [Array.getElem?_setIfInBounds_ne (by omega), Array.getElem?_setIfInBounds_self_of_lt (by omega)]
      · rw [Array.getElem?_setIfInBounds_self_of_lt (by simp; omega)]
    · have hri : ¬ (r : Int) = (a : Int) := by omega
      simp only [put, if_neg hri]
      constructor
      · rw [Array.getElem?_setIfInBounds_ne (by omega), Array.getElem?_setIfInBounds_ne (by omega)]
        exact e.1
      · rw [Array.getElem?_setIfInBounds_ne (by omega), Array.getElem?_setIfInBounds_ne (by omega)]
        exact e.2
  · rcases h.m with ⟨h1, h2, h3⟩ | ⟨mb, h1, h2, h3⟩
    · refine .inl ⟨h1, fun r hr1 hr2 => ?_, fun r hr => ?_⟩
      · simp only [put]
        rw [if_neg (by omega)]
        exact h2 r hr1 hr2
      · simp only [put, List.mem_append, List.mem_singleton] at hr
        rcases hr with hr | rfl
        · exact h3 r hr
        · omega
    · refine .inr ⟨mb, h1, h2, ?_⟩
      have hM := h3.isM
      refine ((h3.keep (hk mb (by obtain ⟨_, _, e⟩ := hM; exact lt_of_block e) (Ne.symm (is_neM ⟨cs, k1⟩ hM)) (fun e => (is_neM (row_is h.s e).2 hM) rfl))).same fun r h4 h5 => ?_).mono (by simp [put])
      simp only [put]
      rw [if_neg (by omega)]
  · exact h.rKeep fun g hg1 hi => hk g (by rcases hi with ⟨cs, hi⟩ | ⟨cs, hi⟩ <;> exact lt_of_block hi) (by rcases hi with hi | hi; exact is_ne hi ⟨cs, k1⟩ (by decide); exact is_ne hi ⟨cs, k1⟩ (by decide)) (fun e => by rcases hi with hi | hi; exact is_ne (row_is h.s e).2 hi (by decide) rfl; exact is_ne (row_is h.s e).2 hi (by decide) rfl)
  · simpa [put] using hown
  · intro r hr
    simp only [put, List.mem_append, List.mem_singleton] at hr
    rcases hr with hr | rfl
    · exact h.bd r hr
    · omega
  · exact hk j hj (by omega) (fun e => by have := (hvs j e).1; omega)
/-- another single character is put in -/
theorem TrQ.putM {mb : Nat} {a c : Int} {vs' : Value} {w1 : World} (h : TrQ base b vs d fl vq (.map (some mb)) vr w) (ha : 127 < a) (ha2 : a ≤ 1114111)
    (hm : MapIs mb (d.sg.length + 1) (fun r => if r = a then some c else d.S r) w1) (hg1 : w.grownBy w1 (some mb))
    (hown : w'.ownsRow base 21 1 vs' (d.sg.length + 1) (d.sg.map (Value.int .i32) ++ [.int .i32 a]))
    (hg : (w1.alloc (.cells #[.int .i32 a] 21)).grownBy w' vs.ownBlock) :
    TrQ base b vs' (put d a c) fl vq (.map (some mb)) vr w' ∧ Keep (fun j => j < base ∧ j ≠ b) w w' := by
  have hlo := h.lo
  obtain ⟨mb', hq1, hq2, hq3⟩ : ∃ mb', Value.map (some mb) = .map (some mb') ∧ base ≤ mb' ∧ MapIs mb' d.sg.length d.S w := by
    rcases h.m with ⟨h1, _⟩ | h1
    · cases h1
    · exact h1
  obtain rfl : mb = mb' := by injection hq1 with e; injection e
  have hM := hq3.isM
  have hMlt : mb < w.heap.size := by obtain ⟨_, _, e⟩ := hM; exact lt_of_block e
  have hvs : ∀ g, vs.ownBlock = some g → base ≤ g ∧ g ≠ mb := fun g hg => ⟨(row_is h.s hg).1, is_neM (row_is h.s hg).2 hM⟩
  have hsz1 : w.heap.size ≤ w1.heap.size := hg1.size
  have hk : ∀ g, g < w.heap.size → g ≠ mb → vs.ownBlock ≠ some g → w'.heap[g]? = w.heap[g]? := fun g hl hne hv => by
    rw [hg.block g (by simp; omega) (fun e => hv e.symm), Below.heap_alloc _ _ _ (by omega), hg1.block g hl (fun e => hne (Option.some.inj e))]
  have hsize : w.heap.size ≤ w'.heap.size := by have := hg.size; simp at this; omega
  refine ⟨⟨hlo, Nat.le_trans h.hi hsize, ?_, ?_, .inr ⟨mb, rfl, hq2, ?_⟩, ?_, ?_, ?_⟩, ⟨hg.os.trans hg1.os, hg.tape.trans hg1.tape, hg.output.trans hg1.output, hsize, fun j hj hjb => ?_⟩⟩
  · rw [hk b (lt_of_block h.blk) (by omega) (fun e => by have := (hvs b e).1; omega)]
    exact h.blk
  · rcases h.q with ⟨h1, h2, h3⟩ | ⟨qb, h1, h2, h3⟩
    · refine .inl ⟨h1, fun r hr1 => ?_, fun r hr => ?_⟩
      · simp only [put]
        rw [if_neg (by omega)]
        exact h2 r hr1
      · simp only [put, List.mem_append, List.mem_singleton] at hr
        rcases hr with hr | rfl
        · exact h3 r hr
        · omega
    · refine .inr ⟨qb, h1, h2, ?_⟩
      have hQ : ∃ cs, w.heap[qb]? = some (.cells cs 87 (0, 0)) := by obtain ⟨cs, e, _⟩ := h3; exact ⟨cs, e⟩
      refine (h3.keep (hk qb h3.lt (is_neM hQ hM) (fun e => (is_ne (row_is h.s e).2 hQ (by decide)) rfl))).same fun r h4 => ?_
      simp only [put]
      rw [if_neg (by omega)]
  · have e1 : w'.heap[mb]? = w1.heap[mb]? := by rw [hg.block mb (by simp; omega) (fun e => (hvs mb e.symm).2 rfl), Below.heap_alloc _ _ _ (by omega)]
    have := hm.keep e1
    simpa [put] using this
  · exact h.rKeep fun g hg1 hi => hk g (by rcases hi with ⟨cs, hi⟩ | ⟨cs, hi⟩ <;> exact lt_of_block hi) (by rcases hi with hi | hi; exact is_neM hi hM; exact is_neM hi hM) (fun e => by rcases hi with hi | hi; exact is_ne (row_is h.s e).2 hi (by decide) rfl; exact is_ne (row_is h.s e).2 hi (by decide) rfl)
  · simpa [put] using hown
  · intro r hr
    simp only [put, List.mem_append, List.mem_singleton] at hr
    rcases hr with hr | rfl
    · exact h.bd r hr
    · omega
  · exact hk j hj (by omega) (fun e => by have := (hvs j e).1; omega)
end
theorem i32_wf {a : Int} (h0 : -2147483648 ≤ a) (h1 : a ≤ 2147483647) : (Lit.int .i32 a).wf = true := by
  simp [Lit.wf, IntKind.min, IntKind.max, IntKind.signed, IntKind.bits]
  omega
theorem wide_put (S : Int → Option Int) (a : Int) (v : Option Int) (ha : 127 < a) (r : Int) : wide (fun r => if r = a then v else S r) r = if r = a then v else wide S r := by
  unfold wide
  by_cases e : r = a
  · subst e; simp [ha]
  · simp [e]
/-- a store into the map -/
theorem MapIs.put {mb n : Nat} {S : Int → Option Int} {w' : World} {D : DataW Unit} {a c : Int} (ha : 127 < a) (h : w'.ownsMap Tryd.prog 21 (plainElem Tryd.prog 21) mb (n + 1) (D.put (.int .i32 a) (.lit (.int .i32 c))))
    (hD : Maps.IsMap D) (h2 : ∀ r : Int, 0 ≤ r → r ≤ 1114111 → Maps.has D (.int .i32 r) = (wide S r).isSome ∧ D.atKey (.int .i32 r) (.lit (.int .i32 0)) = .lit (.int .i32 ((wide S r).getD 0))) :
    MapIs mb (n + 1) (fun r => if r = a then some c else S r) w' := by
  refine ⟨_, h, fun r h3 h4 => ?_⟩
  rw [wide_put S a _ ha]
  by_cases e : r = a
  · subst e
    simp only [if_true, Option.isSome_some, Option.getD_some]
    exact ⟨Maps.has_put_same hD (by simp [WideAt.IsKeyLit]) _, Maps.atKey_put_same hD (by simp [WideAt.IsKeyLit]) _ _⟩
  · have hne : (Lit.int .i32 r) ≠ Lit.int .i32 a := fun x => e (by injection x)
    simp only [if_neg e]
    rw [Maps.has_put_other hne, Maps.atKey_put_other hne]
    exact h2 r h3 h4
theorem MapIs.del {mb n : Nat} {S : Int → Option Int} {w' : World} {D : DataW Unit} {a : Int} (ha : 127 < a) (h : w'.ownsMap Tryd.prog 21 (plainElem Tryd.prog 21) mb n (D.del (.int .i32 a)))
    (h2 : ∀ r : Int, 0 ≤ r → r ≤ 1114111 → Maps.has D (.int .i32 r) = (wide S r).isSome ∧ D.atKey (.int .i32 r) (.lit (.int .i32 0)) = .lit (.int .i32 ((wide S r).getD 0))) (hD : Maps.IsMap D) :
    MapIs mb n (fun r => if r = a then none else S r) w' := by
  refine ⟨_, h, fun r h3 h4 => ?_⟩
  rw [wide_put S a _ ha]
  by_cases e : r = a
  · subst e
    simp only [if_true, Option.isSome_none, Option.getD_none]
    exact ⟨Maps.has_del_same, Maps.atKey_del_same _⟩
  · have hne : (Lit.int .i32 r) ≠ Lit.int .i32 a := fun x => e (by injection x)
    simp only [if_neg e]
    rw [Maps.has_del_other hne, Maps.atKey_del_other hne]
    exact h2 r h3 h4
end Go.Proofs.YtdgaehkfdaacjaaDoor
