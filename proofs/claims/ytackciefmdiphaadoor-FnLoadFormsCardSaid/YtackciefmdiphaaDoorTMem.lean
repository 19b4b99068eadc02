/- Properties in memory: made, got, set. -/
import Derived.Test.YtackciefmdiphaaDoorProg
import Derived.WalkKit
import Derived.WalkSmall
import Derived.Lib.Hide
import Derived.Lib.Strings
import Derived.KernelRfl
import Derived.Deep.LoopGhost
import Derived.Maps.OwnOps
import Derived.Maps.OwnSet
import Derived.Maps.StringElems
import Derived.Maps.AppendAt
import Derived.StringKeys
set_option linter.unusedVariables false
namespace Go.Proofs.YtackciefmdiphaaDoor
open Go.RowKit Go.Maps

theorem lawS : Keyed Tryd.prog 9 := string_keyed Tryd.underlying9
theorem zeroS (w : World) : (zeroValue 9).run Tryd.prog w = .ok (.string ⟨#[]⟩) w := by kernel_rfl
theorem infoStr : (Tryd.prog.info? 9).map (fun i => (i.zero, i.size, i.bytes)) = some (some (.string ⟨#[]⟩), 1, 16) := by kernel_rfl
theorem q_keep {w w' : World} {base : Nat} {e : TypeId} {size : Nat} {v : Value} {n : Nat} {xs : List Value} (h : w.ownsRow base e size v n xs) (k : ∀ g, v.ownBlock = some g → w'.heap[g]? = w.heap[g]?) : w'.ownsRow base e size v n xs := by
  refine ⟨h.1, ?_⟩
  rcases h.2 with hn | ⟨g, cap, cur, hv, h1, h2, h3⟩
  · exact .inl hn
  · exact .inr ⟨g, cap, cur, hv, h1, (k g (by rw [hv]; rfl)).trans h2, h3⟩
theorem q_is {w : World} {base : Nat} {e : TypeId} {size : Nat} {v : Value} {n : Nat} {xs : List Value} (h : w.ownsRow base e size v n xs) {g : Nat} (hg : v.ownBlock = some g) : base ≤ g ∧ ∃ cs, w.heap[g]? = some (.cells cs e (0, 0)) := by
  rcases h.2 with ⟨hv, _⟩ | ⟨g', cap, cur, hv, h1, h2, h3⟩
  · rw [hv] at hg; cases hg
  · rw [hv] at hg
    obtain rfl : g' = g := Option.some.inj hg
    exact ⟨h1, cur, h2⟩
abbrev MpS (w : World) (mb n : Nat) (D : DataW Unit) : Prop := w.ownsMap Tryd.prog 9 (plainElem Tryd.prog 9) mb n D
theorem mp_keep {w w' : World} {mb n : Nat} {D : DataW Unit} (h : MpS w mb n D) (e : w'.heap[mb]? = w.heap[mb]?) : MpS w' mb n D := by
  obtain ⟨es, clock, hb, r⟩ := h
  exact ⟨es, clock, e.trans hb, r⟩
theorem mp_is {w : World} {mb n : Nat} {D : DataW Unit} (h : MpS w mb n D) : ∃ es c, w.heap[mb]? = some (.map es c) := by
  obtain ⟨es, clock, hb, r⟩ := h
  exact ⟨es, clock, hb⟩
/-- properties at 'pb' -/
structure QS (B pb mb mc n : Nat) (D : DataW Unit) (ks : List Value) (lv : Value) (dis : Bool) (sep : ByteArray) (w : World) : Prop where
  blk : w.heap[pb]? = some (.cells #[.string ⟨#[36, 123]⟩, .string ⟨#[125]⟩, .bool dis, .map (some mb), .map (some mc), lv, .string sep] 56 (0, 0))
  mp : MpS w mb n D
  row : w.ownsRow B 9 1 lv n ks
  lo : B ≤ pb ∧ B ≤ mb
theorem seven_cells {w : World} {k : Nat} {a b c d e f g : Value} {t : TypeId} (h : w.heap[k]? = some (.cells #[a, b, c, d, e, f, g] t (0, 0))) :
    w.cell? ⟨k, 2, none⟩ = some c ∧ w.cell? ⟨k, 3, none⟩ = some d ∧ w.cell? ⟨k, 5, none⟩ = some f ∧ w.cell? ⟨k, 6, none⟩ = some g ∧ w.frozen? ⟨k, 2, none⟩ = false ∧ w.frozen? ⟨k, 5, none⟩ = false ∧ w.frozen? ⟨k, 6, none⟩ = false := by
  simp [World.cell?, World.frozen?, h]
def NewPost (w : World) (e : Ending) (w' : World) : Prop := ∃ pb mb mc lv, e = .returned (.pointer (some ⟨pb, 0, none⟩)) ∧ QS w.heap.size pb mb mc 0 (.map []) [] lv false ⟨#[]⟩ w' ∧ Below w.heap.size w w'
set_option maxRecDepth 100000 in
theorem newP_any (w : World) : Calls Tryd.prog 23 #[] w (NewPost w) := by
  have hmm := @run_makeMap Tryd.prog
  unfold NewPost
  go_enter Tryd.func23, Tryd.ntmps23
  go_wp2
  go_ret
  refine ⟨w.heap.size + 1 + 1 + 1, w.heap.size, w.heap.size + 1, .slice (some ⟨w.heap.size + 1 + 1, 0, none⟩) 0 0, rfl, ⟨?_, ?_, ?_, by omega, by omega⟩, ?_⟩
  · have := heap_alloc_new (((w.alloc (.map #[] 0)).alloc (.map #[] 0)).alloc (.cells #[] 9)) (.cells #[.string ⟨#[36, 123]⟩, .string ⟨#[125]⟩, .bool false, .map (some w.heap.size), .map (some (w.heap.size + 1)), .slice (some ⟨w.heap.size + 1 + 1, 0, none⟩) 0 0, .string ⟨#[]⟩] 56)
    simpa using this
  · refine mp_keep (World.ownsMap_made (H := Unit) w Tryd.prog 9 (plainElem Tryd.prog 9)) ?_
    rw [Below.heap_alloc _ _ _ (by simp; omega), Below.heap_alloc _ _ _ (by simp; omega), Below.heap_alloc _ _ _ (by simp)]
  · refine ⟨rfl, .inr ⟨w.heap.size + 1 + 1, 0, #[], rfl, by omega, ?_, Nat.le_refl _, by unfold maxLen; omega, rfl, rfl⟩⟩
    rw [Below.heap_alloc _ _ _ (by simp)]
    have := heap_alloc_new ((w.alloc (.map #[] 0)).alloc (.map #[] 0)) (.cells #[] 9)
    simpa using this
  · exact ((((Below.refl _ w).alloc (Nat.le_refl _) _).alloc (by simp) _).alloc (by simp; omega) _).alloc (by simp; omega) _
set_option maxRecDepth 100000 in
/-- a look-up in properties that are not expanded -/
theorem getP_any (B pb mb mc n : Nat) (D : DataW Unit) (ks : List Value) (lv : Value) (sep k : ByteArray) (w : World) (h : QS B pb mb mc n D ks lv true sep w) (hk : k.size ≤ 2147483647) :
    Calls Tryd.prog 13 #[.pointer (some ⟨pb, 0, none⟩), .string k] w fun e w' => (∃ v : ByteArray, e = .returned (.tuple #[.string v, .bool (Maps.has D (.string k.data.toList))]) ∧ D.atKey (.string k.data.toList) (.lit (.string [])) = .lit (.string v.data.toList)) ∧ w = w' := by
  obtain ⟨c2, c3, _⟩ := seven_cells h.blk
  have HM := Lib.hid h.mp
  have hkm : k.size ≤ maxLen := by unfold maxLen; omega
  clear h
  go_enter Tryd.func13, Tryd.ntmps13
  go_wp2_with (at_lookup; refine wpList_lookup_own_ok _ rfl _ _ 45 rfl 9 9 lawS Tryd.underlying45 (plainElem Tryd.prog 9) (zeroS _) (.lit (.string [])) [] (plainElem_string Tryd.underlying9 (by unfold maxLen; decide)) mb n D rfl HM.out _ _ rfl (WideMaps.keyOf_string_mk Tryd.underlying9 hkm) ?_)
  intro v ps hv
  obtain ⟨s, rfl, hz, hs⟩ := plainElem_string_inv Tryd.underlying9 hv
  have HZ := Lib.hid (congrArg Prod.fst hz)
  clear hv hz
  generalize hg : Maps.has D (.string k.data.toList) = hb
  have HG := Lib.hid hg
  clear hg
  go_wp2
  go_ret2
  exact ⟨⟨s, congrArg (fun z => Ending.returned (.tuple #[.string s, .bool z])) HG.out.symm, HZ.out⟩, rfl⟩

theorem seven_set {w : World} {k : Nat} {a b c d e f g u : Value} {t : TypeId} (h : w.heap[k]? = some (.cells #[a, b, c, d, e, f, g] t (0, 0))) (i : Nat) : (w.setCell ⟨k, i, none⟩ u).heap[k]? = some (.cells (#[a, b, c, d, e, f, g].setIfInBounds i u) t (0, 0)) := by
  simp [World.setCell, Array.getElem?_modify, h]
theorem q_ne {w : World} {g g' : Nat} {t t' : TypeId} (h : ∃ cs, w.heap[g]? = some (.cells cs t (0, 0))) (h' : ∃ cs, w.heap[g']? = some (.cells cs t' (0, 0))) (hne : t ≠ t') : g ≠ g' := by
  rintro rfl
  obtain ⟨cs, h⟩ := h
  obtain ⟨cs', h'⟩ := h'
  rw [h] at h'
  injection h' with h'
  injection h' with _ h2
  exact hne h2
theorem q_neM {w : World} {g g' : Nat} {t : TypeId} (h : ∃ cs, w.heap[g]? = some (.cells cs t (0, 0))) (h' : ∃ es c, w.heap[g']? = some (.map es c)) : g ≠ g' := by
  rintro rfl
  obtain ⟨cs, h⟩ := h
  obtain ⟨es, c, h'⟩ := h'
  rw [h] at h'
  cases h'
end Go.Proofs.YtackciefmdiphaaDoor
