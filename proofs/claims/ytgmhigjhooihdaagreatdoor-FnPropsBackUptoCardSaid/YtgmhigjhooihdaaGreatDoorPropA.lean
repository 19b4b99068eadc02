/- Rows of properties that a caller gives. -/
import Derived.Test.YtgmhigjhooihdaaGreatDoorRowA0
import Derived.Deep.Slices
import Derived.SliceStrings
set_option linter.unusedVariables false
namespace Go.Proofs.YtgmhigjhooihdaaGreatDoor
open Go.RowKit Plain Go.ChangeShapes

instance : Inhabited PropD := ⟨⟨⟨#[]⟩, ⟨#[]⟩, ⟨#[]⟩, []⟩⟩
/-- property 'd' stands at 'ad' from cell 'o' on -/
def PrAt (ad : Addr) (o : Nat) (d : PropD) (w : World) : Prop :=
  w.cell? (ad.add o) = some (.string d.key) ∧ w.cell? (ad.add (o + 1)) = some (.string d.raw) ∧ w.cell? (ad.add (o + 2)) = some (.string d.val) ∧
    ∃ (A : Option Addr) (c : Nat), w.cell? (ad.add (o + 3)) = some (.slice A d.com.length c) ∧ RowA A d.com w ∧ d.com.length ≤ c ∧ d.com.length ≤ 9223372036854775807
/-- the properties 'l' stand at 'A' -/
def PrA (A : Option Addr) (l : List PropD) (w : World) : Prop := ∀ i d, l[i]? = some d → ∃ ad, A = some ad ∧ PrAt ad (i * 4) d w
theorem PrAt.below {ad : Addr} {o : Nat} {d : PropD} {w w' : World} (h : PrAt ad o d w) (hb : Below w.heap.size w w') : PrAt ad o d w' := by
  obtain ⟨h1, h2, h3, A, c, h4, h5, h6, h7⟩ := h
  exact ⟨(hb.cell (cell_lt h1)).trans h1, (hb.cell (cell_lt h2)).trans h2, (hb.cell (cell_lt h3)).trans h3, A, c, (hb.cell (cell_lt h4)).trans h4, h5.below hb, h6, h7⟩
theorem PrA.below {A : Option Addr} {l : List PropD} {w w' : World} (h : PrA A l w) (hb : Below w.heap.size w w') : PrA A l w' := fun i d hd => by
  obtain ⟨ad, h1, h2⟩ := h i d hd
  exact ⟨ad, h1, h2.below hb⟩
theorem add_next (q : Addr) (j : Nat) : q.add (j + 1) = ⟨q.block, q.off + (j + 1), none⟩ := by
  unfold Addr.add
  rw [if_neg (by omega)]
/-- .. cell by cell, as a struct is loaded -/
theorem PrAt.cells {ad : Addr} {o : Nat} {d : PropD} {w : World} (h : PrAt ad o d w) : ∃ q, ad.add o = q ∧ w.cell? q = some (.string d.key) ∧ w.cell? ⟨q.block, q.off + 1, none⟩ = some (.string d.raw) ∧ w.cell? ⟨q.block, q.off + 2, none⟩ = some (.string d.val) ∧
    ∃ (A : Option Addr) (c : Nat), w.cell? ⟨q.block, q.off + 3, none⟩ = some (.slice A d.com.length c) ∧ RowA A d.com w ∧ d.com.length ≤ c ∧ d.com.length ≤ 9223372036854775807 := by
  obtain ⟨h1, h2, h3, A, c, h4, h5, h6, h7⟩ := h
  rw [← Deep.add_add, add_next _ 0] at h2
  rw [← Deep.add_add, add_next _ 1] at h3
  rw [← Deep.add_add, add_next _ 2] at h4
  exact ⟨_, rfl, h1, h2, h3, A, c, h4, h5, h6, h7⟩
theorem prA_nil (A : Option Addr) (w : World) : PrA A [] w := fun i d hd => by simp at hd
theorem row_open {H : Type} {enc : TypeId × Value → H} {W : World} {sp : Nat → Bool} {held : Bool} {fuel : Nat} {cs : List Value} {x : DataW H × List MemPlace} (h : DataW.trod enc Tryz.prog W 0 sp held fuel 32 cs = some x) :
    ∃ (A : Option Addr) (c : Nat) (l : List ByteArray), cs = [.slice A l.length c] ∧ RowA A l W ∧ l.length ≤ c ∧ l.length ≤ 9223372036854775807 := by
  rcases open_strings Tryz.underlying32 Tryz.underlying9 (by kernel_rfl) h with ⟨rfl, _⟩ | ⟨a, len, cap, ss, rfl, _, hl, hm, hz, _, hcell, hsz⟩
  · exact ⟨none, 0, [], rfl, rowA_nil _ _, Nat.le_refl _, by simp⟩
  · have hz2 : len ≤ ss.length := by rw [hz]; split <;> omega
    have hz3 : (ss.take len).length = len := by rw [List.length_take]; omega
    refine ⟨some a, cap, ss.take len, by rw [hz3], rowA_addr (fun j y hy => ?_), by omega, by unfold maxLen at hm; omega⟩
    have hj : j < len := by have := (List.getElem?_eq_some_iff.1 hy).1; omega
    rw [List.getElem?_take_of_lt hj] at hy
    rw [hcell j (by omega)]
    simp [List.getD, hy]
theorem add_addP (a : Addr) (i j : Nat) : (a.add i).add j = a.add (i + j) := Deep.add_add a i j
set_option maxRecDepth 100000 in
theorem prop_open {H : Type} {enc : TypeId × Value → H} {W : World} {sp : Nat → Bool} {held : Bool} {fuel : Nat} {cs : List Value} {x : DataW H × List MemPlace} {ad : Addr} {o : Nat} (hc : W.cells? 0 (ad.add o) 4 = some cs) (h : DataW.trod enc Tryz.prog W 0 sp held fuel 34 cs = some x) : ∃ d : PropD, PrAt ad o d W := by
  obtain ⟨_, hlen, hcell⟩ := World.cells?_some hc
  obtain ⟨xs, k, hk, hxy, _, hxl, hf⟩ := DataW.trod_struct Tryz.underlying34 h
  match xs, hxl, cs, hlen with
  | [y0, y1, y2, y3], _, [v0, v1, v2, v3], _ =>
    have g0 := hf 0 _ rfl
    have g1 := hf 1 _ rfl
    have g2 := hf 2 _ rfl
    have g3 := hf 3 _ rfl
    have c1 : Tryz.prog.cellsOf 9 = 1 := by kernel_rfl
    have c2 : Tryz.prog.cellsOf 32 = 1 := by kernel_rfl
    simp [c1, c2] at g0 g1 g2 g3
    have e0 := hcell 0 (by omega)
    have e1 := hcell 1 (by omega)
    have e2 := hcell 2 (by omega)
    have e3 := hcell 3 (by omega)
    rw [add_addP] at e0 e1 e2 e3
    obtain ⟨s0, h0, _⟩ := DataW.trod_string Tryz.underlying9 g0
    obtain ⟨s1, h1, _⟩ := DataW.trod_string Tryz.underlying9 g1
    obtain ⟨s2, h2, _⟩ := DataW.trod_string Tryz.underlying9 g2
    obtain ⟨A, c, l, h3, h4, h5, h6⟩ := row_open g3
    injection h0 with h0
    injection h1 with h1
    injection h2 with h2
    injection h3 with h3
    subst h0
    subst h1
    subst h2
    subst h3
    exact ⟨⟨s0, s1, s2, l⟩, by simpa using e0, by simpa using e1, by simpa using e2, A, c, by simpa using e3, h4, h5, h6⟩
theorem props_open {H : Type} {enc : TypeId × Value → H} {W : World} {sp : Nat → Bool} {held : Bool} {fuel : Nat} {cs : List Value} {x : DataW H × List MemPlace} (h : DataW.trod enc Tryz.prog W 0 sp held fuel 25 cs = some x) :
    ∃ (A : Option Addr) (c : Nat) (l : List PropD), cs = [.slice A l.length c] ∧ PrA A l W ∧ l.length ≤ c ∧ l.length ≤ 9223372036854775807 ∧ (A = none → c = 0) := by
  rcases Deep.open_slice Tryz.underlying25 h with ⟨rfl, _⟩ | ⟨a, len, cap, m, n, D, Pl, rfl, hb, hl, hm, hmm, _, hx⟩
  · exact ⟨none, 0, [], rfl, prA_nil _ _, Nat.le_refl _, by simp, fun _ => rfl⟩
  · have c4 : Tryz.prog.cellsOf 34 = 4 := by kernel_rfl
    have hlm : len ≤ m := by rw [hmm]; split <;> omega
    obtain ⟨q, hq⟩ := Deep.choose_lt (α := PropD) (n := len) (p := fun i d => PrAt a (i * 4) d W) (fun i hi => by
      obtain ⟨cs', h1, h2⟩ := hx i (by omega)
      rw [c4] at h1
      exact prop_open h1 h2)
    have hql : ((List.range len).map q).length = len := by simp
    refine ⟨some a, cap, (List.range len).map q, by rw [hql], fun i d hd => ⟨a, rfl, ?_⟩, by omega, by unfold maxLen at hm; omega, fun h => by cases h⟩
    rw [List.getElem?_map] at hd
    cases hr : (List.range len)[i]? with
    | none => rw [hr] at hd; cases hd
    | some j =>
      rw [hr] at hd
      simp at hd
      subst hd
      have hi : i < len := by have := (List.getElem?_eq_some_iff.1 hr).1; simpa using this
      rw [List.getElem?_range hi] at hr
      injection hr with hr
      subst hr
      exact hq i hi
end Go.Proofs.YtgmhigjhooihdaaGreatDoor
