/- The parser's properties in memory. -/
import Derived.Test.YtackciefmdiphaaGreatDoorParLaw
import Derived.Test.YtackciefmdiphaaGreatDoorParExp
set_option linter.unusedVariables false
namespace Go.Proofs.YtackciefmdiphaaGreatDoor
open Go.RowKit Plain Go.Maps

/-- an element as it stands -/
def rawR (v : Value) : Option (DataW Value × List MemPlace) := some (.held v, [])
abbrev MpC (w : World) (mc n : Nat) (DC : DataW Value) : Prop := w.ownsMap Tryz.prog 9 rawR mc n DC
theorem mpc_keep {w w' : World} {mb n : Nat} {D : DataW Value} (h : MpC w mb n D) (e : w'.heap[mb]? = w.heap[mb]?) : MpC w' mb n D := by
  obtain ⟨es, clock, hb, r⟩ := h
  exact ⟨es, clock, e.trans hb, r⟩
theorem mpc_is {w : World} {mb n : Nat} {D : DataW Value} (h : MpC w mb n D) : ∃ es c, w.heap[mb]? = some (.map es c) := by
  obtain ⟨es, clock, hb, r⟩ := h
  exact ⟨es, clock, hb⟩
theorem map_lt {w : World} {k : Nat} (h : ∃ es c, w.heap[k]? = some (.map es c)) : k < w.heap.size := by
  obtain ⟨es, c, h⟩ := h
  exact (Array.getElem?_eq_some_iff.1 h).1
/-- properties at 'pb' -/
structure PQ (B pb mb mc n nc : Nat) (p : PSt) (DC : DataW Value) (lv : Value) (w : World) : Prop where
  blk : w.heap[pb]? = some (.cells #[.string ⟨#[36, 123]⟩, .string ⟨#[125]⟩, .bool false, .map (some mb), .map (some mc), lv, .string ⟨#[]⟩] 86 (0, 0))
  mp : MpS w mb n p.D
  cp : MpC w mc nc DC
  row : w.ownsRow B 9 1 lv p.ks.length (p.ks.map Value.string)
  lo : B ≤ pb ∧ B ≤ mb ∧ B ≤ mc ∧ mb ≠ mc
/-- what the comments' map holds -/
def CRel (B : Nat) (DC : DataW Value) (cf : ByteArray → Option (List ByteArray)) (lv cmv : Value) (w : World) : Prop :=
  ∀ k : ByteArray, (cf k = none → Maps.has DC (keyL8 k) = false) ∧ (∀ l, cf k = some l → ∃ v, Maps.has DC (keyL8 k) = true ∧ DC.atKey (keyL8 k) (.held (.slice none 0 0)) = .held v ∧ w.ownsRow B 9 1 v l.length (l.map Value.string) ∧ ∀ g, v.ownBlock = some g → lv.ownBlock ≠ some g ∧ cmv.ownBlock ≠ some g)
theorem row_cells {w : World} {base sz : Nat} {e : TypeId} {v : Value} {n : Nat} {xs : List Value} (h : w.ownsRow base e sz v n xs) {g : Nat} (hg : v.ownBlock = some g) : ∃ cs, w.heap[g]? = some (.cells cs e (0, 0)) := by
  rcases h.2 with ⟨hv, _⟩ | ⟨g', cap, cur, hv, h1, h2, h3⟩
  · rw [hv] at hg; cases hg
  · rw [hv] at hg
    obtain rfl : g' = g := Option.some.inj hg
    exact ⟨_, h2⟩
/-- the world goes on: what is neither the keys' row nor the row of comments is kept -/
theorem CRel.keep {B : Nat} {DC : DataW Value} {cf : ByteArray → Option (List ByteArray)} {lv cmv lv' cmv' : Value} {w w' : World} (h : CRel B DC cf lv cmv w)
    (hk : ∀ (g : Nat) (cs : Array Value), w.heap[g]? = some (.cells cs 9 (0, 0)) → lv.ownBlock ≠ some g → cmv.ownBlock ≠ some g → w'.heap[g]? = w.heap[g]?)
    (h1 : lv'.ownBlock = lv.ownBlock ∨ ∀ g, lv'.ownBlock = some g → w.heap.size ≤ g) (h2 : cmv'.ownBlock = cmv.ownBlock ∨ ∀ g, cmv'.ownBlock = some g → w.heap.size ≤ g) : CRel B DC cf lv' cmv' w' := by
  intro k
  obtain ⟨ha, hb⟩ := h k
  refine ⟨ha, fun l hl => ?_⟩
  obtain ⟨v, v1, v2, v3, v4⟩ := hb l hl
  refine ⟨v, v1, v2, row_keep v3 (fun g hg => ?_), fun g hg => ?_⟩
  · obtain ⟨cs, hcs⟩ := row_cells v3 hg
    exact hk g cs hcs (v4 g hg).1 (v4 g hg).2
  · have hlt := (row_lt v3 hg).2
    constructor
    · rcases h1 with h1 | h1
      · rw [h1]; exact (v4 g hg).1
      · intro e; have := h1 g e; omega
    · rcases h2 with h2 | h2
      · rw [h2]; exact (v4 g hg).2
      · intro e; have := h2 g e; omega
theorem CRel.zero (B : Nat) (lv cmv : Value) (w : World) : CRel B (.map []) (fun _ => none) lv cmv w := by
  intro k
  exact ⟨fun _ => rfl, fun l hl => by cases hl⟩
theorem keyL8_inj {a b : ByteArray} (h : keyL8 a = keyL8 b) : a = b := by
  unfold keyL8 at h
  injection h with h
  exact ByteArray.ext (Array.toList_inj.1 h)
/-- comments are stored at a key; the row of comments is another one then -/
theorem CRel.store {B nc : Nat} {DC : DataW Value} {cf : ByteArray → Option (List ByteArray)} {lv cmv cmv' : Value} {w w' : World} {k : ByteArray} {cm : List ByteArray} {mc : Nat} (h : CRel B DC cf lv cmv w) (hm : MpC w mc nc DC)
    (hrow : w.ownsRow B 9 1 cmv cm.length (cm.map Value.string)) (hne : ∀ g, cmv.ownBlock = some g → lv.ownBlock ≠ some g)
    (hk : ∀ (g : Nat) (cs : Array Value), w.heap[g]? = some (.cells cs 9 (0, 0)) → w'.heap[g]? = w.heap[g]?) (h2 : ∀ g, cmv'.ownBlock = some g → w.heap.size ≤ g) : CRel B (DC.put (keyL8 k) (.held cmv)) (updC cf k cm) lv cmv' w' := by
  have hIM : IsMap DC := by obtain ⟨es, clock, _, _, _, hD⟩ := hm; exact ⟨_, hD⟩
  intro x
  unfold updC
  by_cases hx : x = k
  · subst hx
    rw [if_pos rfl]
    refine ⟨fun e => (by cases e), fun l hl => ?_⟩
    injection hl with hl
    subst hl
    refine ⟨cmv, ?_, ?_, row_keep hrow (fun g hg => ?_), fun g hg => ⟨hne g hg, fun e => ?_⟩⟩
    · exact has_put_same (k := keyL8 x) hIM (by unfold keyL8; trivial) _
    · exact atKey_put_same (k := keyL8 x) hIM (by unfold keyL8; trivial) _ _
    · obtain ⟨cs, hcs⟩ := row_cells hrow hg
      exact hk g cs hcs
    · have := h2 g e; have := (row_lt hrow hg).2; omega
  · rw [if_neg hx]
    obtain ⟨ha, hb⟩ := h x
    refine ⟨fun e => ?_, fun l hl => ?_⟩
    · rw [has_put_other (fun e => hx (keyL8_inj e))]; exact ha e
    · obtain ⟨v, v1, v2, v3, v4⟩ := hb l hl
      refine ⟨v, ?_, ?_, row_keep v3 (fun g hg => ?_), fun g hg => ⟨(v4 g hg).1, fun e => ?_⟩⟩
      · rw [has_put_other (fun e => hx (keyL8_inj e))]; exact v1
      · rw [atKey_put_other (fun e => hx (keyL8_inj e))]; exact v2
      · obtain ⟨cs, hcs⟩ := row_cells v3 hg
        exact hk g cs hcs
      · have := h2 g e; have := (row_lt v3 hg).2; omega
def NewPQ (w : World) (e : Ending) (w' : World) : Prop := ∃ pb mb mc lv, e = .returned (.pointer (some ⟨pb, 0, none⟩)) ∧ PQ w.heap.size pb mb mc 0 0 pst0 (.map []) lv w' ∧ Below w.heap.size w w'
set_option maxRecDepth 100000 in
theorem newPQ_any (w : World) : Calls Tryz.prog 48 #[] w (NewPQ w) := by
  have hmm := @run_makeMap Tryz.prog
  unfold NewPQ
  go_enter Tryz.func48, Tryz.ntmps48
  go_wp2
  go_ret
  refine ⟨w.heap.size + 1 + 1 + 1, w.heap.size, w.heap.size + 1, .slice (some ⟨w.heap.size + 1 + 1, 0, none⟩) 0 0, rfl, ⟨?_, ?_, ?_, ?_, by omega, by omega, by omega, by omega⟩, ?_⟩
  · have := heap_alloc_new (((w.alloc (.map #[] 0)).alloc (.map #[] 0)).alloc (.cells #[] 9)) (.cells #[.string ⟨#[36, 123]⟩, .string ⟨#[125]⟩, .bool false, .map (some w.heap.size), .map (some (w.heap.size + 1)), .slice (some ⟨w.heap.size + 1 + 1, 0, none⟩) 0 0, .string ⟨#[]⟩] 86)
    simpa using this
  · refine mp_keep (World.ownsMap_made (H := Unit) w Tryz.prog 9 (plainElem Tryz.prog 9)) ?_
    rw [Below.heap_alloc _ _ _ (by simp; omega), Below.heap_alloc _ _ _ (by simp; omega), Below.heap_alloc _ _ _ (by simp)]
  · refine mpc_keep (w := (w.alloc (.map #[] 0)).alloc (.map #[] 0)) (by
      have := World.ownsMap_made (H := Value) (w.alloc (.map #[] 0)) Tryz.prog 9 rawR
      rw [show (w.alloc (.map #[] 0)).heap.size = w.heap.size + 1 by simp] at this
      exact this) ?_
    rw [Below.heap_alloc _ _ _ (by simp), Below.heap_alloc _ _ _ (by simp)]
  · refine ⟨rfl, .inr ⟨w.heap.size + 1 + 1, 0, #[], rfl, by omega, ?_, Nat.le_refl _, by unfold maxLen; omega, rfl, rfl⟩⟩
    rw [Below.heap_alloc _ _ _ (by simp)]
    have := heap_alloc_new ((w.alloc (.map #[] 0)).alloc (.map #[] 0)) (.cells #[] 9)
    simpa using this
  · exact ((((Below.refl _ w).alloc (Nat.le_refl _) _).alloc (by simp) _).alloc (by simp; omega) _).alloc (by simp; omega) _
end Go.Proofs.YtackciefmdiphaaGreatDoor
