/- Rows of properties that a caller gives, where what is read is of bounded bulk. -/
import Derived.Test.YtgmhigjhooihdaaGreatDoorPropA
import Derived.Test.YtgmhigjhooihdaaGreatDoorRows
set_option linter.unusedVariables false
namespace Go.Proofs.YtgmhigjhooihdaaGreatDoor
open Go.RowKit Plain Go.ChangeShapes

theorem bulk_pos {H : Type} (d : DataW H) : 1 ≤ Rows.uptoBulk d := by
  cases d with
  | lit l => cases l <;> simp [Rows.uptoBulk]
  | _ => simp [Rows.uptoBulk]
theorem bulk_len {H : Type} : ∀ (l : List (DataW H)), l.length ≤ Rows.uptoBulkAll l := by
  intro l
  induction l with
  | nil => simp [Rows.uptoBulkAll]
  | cons x r ih =>
    have := bulk_pos x
    simp only [Rows.uptoBulkAll, List.length_cons]
    omega
theorem bulk_mem {H : Type} {d : DataW H} : ∀ {l : List (DataW H)}, d ∈ l → Rows.uptoBulk d ≤ Rows.uptoBulkAll l := by
  intro l
  induction l with
  | nil => intro h; cases h
  | cons x r ih =>
    intro h
    simp only [Rows.uptoBulkAll]
    rcases List.mem_cons.1 h with rfl | h
    · omega
    · have := ih h; omega
theorem bulk_slice {H : Type} (a b : List (DataW H)) : a.length ≤ Rows.uptoBulk (.slice a b) ∧ ∀ d ∈ a, Rows.uptoBulk d ≤ Rows.uptoBulk (.slice a b) := by
  have h1 := bulk_len a
  refine ⟨by simp only [Rows.uptoBulk]; omega, fun d hd => ?_⟩
  have h2 := bulk_mem hd
  simp only [Rows.uptoBulk]
  omega
theorem bulk_agg {H : Type} {a : List (DataW H)} {d : DataW H} (h : d ∈ a) : Rows.uptoBulk d ≤ Rows.uptoBulk (.agg a) := by
  have := bulk_mem h
  simp only [Rows.uptoBulk]
  omega
theorem row_openU {H : Type} {enc : TypeId × Value → H} {W : World} {sp : Nat → Bool} {held : Bool} {fuel : Nat} {cs : List Value} {x : DataW H × List MemPlace} (h : DataW.trod enc Tryz.prog W 0 sp held fuel 32 cs = some x) :
    ∃ (A : Option Addr) (c : Nat) (l : List ByteArray), cs = [.slice A l.length c] ∧ RowA A l W ∧ l.length ≤ c ∧ l.length ≤ 9223372036854775807 ∧ l.length ≤ Rows.uptoBulk x.1 := by
  rcases open_strings Tryz.underlying32 Tryz.underlying9 (by kernel_rfl) h with ⟨rfl, _⟩ | ⟨a, len, cap, ss, rfl, _, hl, hm, hz, rfl, hcell, hsz⟩
  · exact ⟨none, 0, [], rfl, rowA_nil _ _, Nat.le_refl _, by simp, Nat.zero_le _⟩
  · have hz2 : len ≤ ss.length := by rw [hz]; split <;> omega
    have hz3 : (ss.take len).length = len := by rw [List.length_take]; omega
    refine ⟨some a, cap, ss.take len, by rw [hz3], rowA_addr (fun j y hy => ?_), by omega, by unfold maxLen at hm; omega, ?_⟩
    · have hj : j < len := by have := (List.getElem?_eq_some_iff.1 hy).1; omega
      rw [List.getElem?_take_of_lt hj] at hy
      rw [hcell j (by omega)]
      simp [List.getD, hy]
    · have := (bulk_slice (H := H) (strs (ss.take len)) (strs (ss.drop len))).1
      have e : (strs (H := H) (ss.take len)).length = (ss.take len).length := by unfold strs; rw [List.length_map]
      rw [e] at this
      exact this
set_option maxRecDepth 100000 in
theorem prop_openU {H : Type} {enc : TypeId × Value → H} {W : World} {sp : Nat → Bool} {held : Bool} {fuel : Nat} {cs : List Value} {x : DataW H × List MemPlace} {ad : Addr} {o : Nat} (hc : W.cells? 0 (ad.add o) 4 = some cs) (h : DataW.trod enc Tryz.prog W 0 sp held fuel 34 cs = some x) : ∃ d : PropD, PrAt ad o d W ∧ d.com.length ≤ Rows.uptoBulk x.1 := by
  obtain ⟨_, hlen, hcell⟩ := World.cells?_some hc
  obtain ⟨xs, k, hk, hxy, _, hxl, hf⟩ := DataW.trod_struct Tryz.underlying34 h
  match xs, hxl, cs, hlen with
  | [y0, y1, y2, y3], _, [v0, v1, v2, v3], _ =>
    have g0 := hf 0 _ rfl
    have g1 := hf 1 _ rfl
    have g2 := hf 2 _ rfl
    have g3 := hf 3 _ rfl
    have c1 : Tryz.prog.cellsOf 9 = 1 := by kernel_rfl
    have c2 : Tryz.prog.cellsOf 32 = 1 := by kernel_rfl
    simp [c1, c2] at g0 g1 g2 g3
    have e0 := hcell 0 (by omega)
    have e1 := hcell 1 (by omega)
    have e2 := hcell 2 (by omega)
    have e3 := hcell 3 (by omega)
    rw [add_addP] at e0 e1 e2 e3
    obtain ⟨s0, h0, _⟩ := DataW.trod_string Tryz.underlying9 g0
    obtain ⟨s1, h1, _⟩ := DataW.trod_string Tryz.underlying9 g1
    obtain ⟨s2, h2, _⟩ := DataW.trod_string Tryz.underlying9 g2
    obtain ⟨A, c, l, h3, h4, h5, h6, h7⟩ := row_openU g3
    injection h0 with h0
    injection h1 with h1
    injection h2 with h2
    injection h3 with h3
    subst h0
    subst h1
    subst h2
    subst h3
    refine ⟨⟨s0, s1, s2, l⟩, ⟨by simpa using e0, by simpa using e1, by simpa using e2, A, c, by simpa using e3, h4, h5, h6⟩, ?_⟩
    rw [hxy]
    exact Nat.le_trans h7 (bulk_agg (by simp))
theorem props_openU {H : Type} {enc : TypeId × Value → H} {W : World} {sp : Nat → Bool} {held : Bool} {fuel : Nat} {cs : List Value} {x : DataW H × List MemPlace} (h : DataW.trod enc Tryz.prog W 0 sp held fuel 25 cs = some x) :
    ∃ (A : Option Addr) (c : Nat) (l : List PropD), cs = [.slice A l.length c] ∧ PrA A l W ∧ l.length ≤ c ∧ l.length ≤ 9223372036854775807 ∧ (A = none → c = 0) ∧ l.length ≤ Rows.uptoBulk x.1 ∧ ∀ d ∈ l, d.com.length ≤ Rows.uptoBulk x.1 := by
  rcases Deep.open_slice Tryz.underlying25 h with ⟨rfl, _⟩ | ⟨a, len, cap, m, n, D, Pl, rfl, hb, hl, hm, hmm, rfl, hx⟩
  · exact ⟨none, 0, [], rfl, prA_nil _ _, Nat.le_refl _, by simp, fun _ => rfl, Nat.zero_le _, fun d hd => by cases hd⟩
  · have c4 : Tryz.prog.cellsOf 34 = 4 := by kernel_rfl
    have hlm : len ≤ m := by rw [hmm]; split <;> omega
    obtain ⟨q, hq⟩ := Deep.choose_lt (α := PropD) (n := len) (p := fun i d => PrAt a (i * 4) d W ∧ d.com.length ≤ Rows.uptoBulk (D i)) (fun i hi => by
      obtain ⟨cs', h1, h2⟩ := hx i (by omega)
      rw [c4] at h1
      exact prop_openU h1 h2)
    have hql : ((List.range len).map q).length = len := by simp
    have hbs := bulk_slice ((List.range len).map D) ((List.range (m - len)).map fun j => D (len + j))
    refine ⟨some a, cap, (List.range len).map q, by rw [hql], fun i d hd => ⟨a, rfl, ?_⟩, by omega, by unfold maxLen at hm; omega, (fun h => by cases h), ?_, fun d hd => ?_⟩
    · rw [List.getElem?_map] at hd
      cases hr : (List.range len)[i]? with
      | none => rw [hr] at hd; cases hd
      | some j =>
        rw [hr] at hd
        simp at hd
        subst hd
        have hi : i < len := by have := (List.getElem?_eq_some_iff.1 hr).1; simpa using this
        rw [List.getElem?_range hi] at hr
        injection hr with hr
        subst hr
        exact (hq i hi).1
    · have h9 := hbs.1
      rw [List.length_map, List.length_range] at h9
      rw [hql]
      exact h9
    · obtain ⟨i, hi, rfl⟩ := List.mem_map.1 hd
      have hi' := List.mem_range.1 hi
      exact Nat.le_trans (hq i hi').2 (hbs.2 (D i) (List.mem_map.2 ⟨i, hi, rfl⟩))
end Go.Proofs.YtgmhigjhooihdaaGreatDoor
