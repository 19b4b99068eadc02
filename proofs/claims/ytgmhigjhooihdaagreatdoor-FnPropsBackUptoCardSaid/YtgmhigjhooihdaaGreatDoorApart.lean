/- Rows of properties put behind one another; what is written of them. -/
import Derived.Test.YtgmhigjhooihdaaGreatDoorWPropsA
import Derived.Test.YtgmhigjhooihdaaGreatDoorListedW
import Derived.Laws.AppendOwnNone
set_option linter.unusedVariables false
namespace Go.Proofs.YtgmhigjhooihdaaGreatDoor
open Go.RowKit Plain Go.Maps

theorem wp_app {ops : Array Oper} {rest : List Oper} {o : Oper} {a : Act} {Q : Exit → Act → World → Prop} {w : World} (hgd : o.guard = none) (s x : Operand) (t : TypeId)
    (ho : o.op = .call { callee := .builtin .append, args := #[s, x], argTypes := #[t, t] }) (v src : Value) (hs : a.eval s = v) (hx : a.eval x = src) (F : Value → World → Prop)
    (hrun : ∃ v' w', (Builtin.append_ #[t, t] o.type #[v, src]).run Tryz.prog w = .ok v' w' ∧ F v' w') (h : ∀ v' w', F v' w' → wpList Tryz.prog ops Q rest (a.put o.dst v') w') :
    wpList Tryz.prog ops Q (o :: rest) a w := by
  refine wpList_plain hgd fun K hK => ?_
  obtain ⟨v', w', hr, hF⟩ := hrun
  unfold Oper.wp execOp
  simp only [ho, resolve, invoke, builtin, Sem.run_bind, Sem.run_pure, Result.andThen_ok, List.map_toArray, List.map_cons, List.map_nil, hs, hx, hr]
  exact hK _ _ (h v' w' hF)
/-- the comments' slices of a row of properties -/
def ComsAt (l : List PropD) (us : List Value) (w : World) : Prop := us.length = l.length ∧ ∀ (i : Nat) (d : PropD) (u : Value), l[i]? = some d → us[i]? = some u → ∃ (B : Option Addr) (c : Nat), u = .slice B d.com.length c ∧ RowA B d.com w ∧ d.com.length ≤ c ∧ d.com.length ≤ 9223372036854775807
theorem flat_at : ∀ (vs : List (List Value)), (∀ v ∈ vs, v.length = 4) → ∀ (j : Nat) (x : Value), vs.flatten[j]? = some x → ∃ i r v, j = i * 4 + r ∧ r < 4 ∧ vs[i]? = some v ∧ v[r]? = some x := by
  intro vs
  induction vs with
  | nil => intro h j x hx; simp at hx
  | cons v vs ih =>
    intro h j x hx
    have h4 := h v List.mem_cons_self
    rw [List.flatten_cons] at hx
    by_cases hj : j < 4
    · rw [List.getElem?_append_left (by omega)] at hx
      exact ⟨0, j, v, by omega, hj, rfl, hx⟩
    · rw [List.getElem?_append_right (by omega), h4] at hx
      obtain ⟨i, r, u, e1, e2, e3, e4⟩ := ih (fun u hu => h u (List.mem_cons_of_mem _ hu)) (j - 4) x hx
      exact ⟨i + 1, r, u, by omega, e2, by simpa using e3, e4⟩
theorem zip4 (l : List PropD) (us : List Value) : ∀ v ∈ List.zipWith propV l us, v.length = 4 := by
  intro v hv
  obtain ⟨i, hi⟩ := List.getElem?_of_mem hv
  rw [List.getElem?_zipWith] at hi
  split at hi
  · injection hi with hi
    subst hi
    rfl
  · cases hi
theorem flat_len (l : List PropD) (us : List Value) (h : us.length = l.length) : ((List.zipWith propV l us).flatten).length = l.length * 4 := by
  rw [List.length_flatten]
  have : (List.zipWith propV l us).map List.length = List.replicate l.length 4 := by
    apply List.ext_getElem?
    intro i
    rw [List.getElem?_map, List.getElem?_replicate]
    by_cases hi : i < l.length
    · rw [if_pos hi]
      have e1 : (List.zipWith propV l us)[i]? = some (propV l[i] us[i]) := by
        rw [List.getElem?_zipWith, List.getElem?_eq_getElem hi, List.getElem?_eq_getElem (by omega)]
      rw [e1]
      rfl
    · rw [if_neg hi, List.getElem?_eq_none (by rw [List.length_zipWith]; omega)]
      rfl
  rw [this]
  simp
/-- the cells of a row that is given -/
theorem PrA.row {ad : Addr} {l : List PropD} {w : World} (h : PrA (some ad) l w) : ∃ us, ComsAt l us w ∧ ∀ (j : Nat) (x : Value), ((List.zipWith propV l us).flatten)[j]? = some x → w.cell? (ad.add j) = some x := by
  have each : ∀ i, i < l.length → ∃ u : Value, ∀ d, l[i]? = some d → w.cell? (ad.add (i * 4)) = some (.string d.key) ∧ w.cell? (ad.add (i * 4 + 1)) = some (.string d.raw) ∧ w.cell? (ad.add (i * 4 + 2)) = some (.string d.val) ∧ w.cell? (ad.add (i * 4 + 3)) = some u ∧
      ∃ (B : Option Addr) (c : Nat), u = .slice B d.com.length c ∧ RowA B d.com w ∧ d.com.length ≤ c ∧ d.com.length ≤ 9223372036854775807 := by
    intro i hi
    obtain ⟨ad', e, h1, h2, h3, B, c, h4, h5, h6, h7⟩ := h i l[i] (List.getElem?_eq_getElem hi)
    injection e with e
    subst e
    refine ⟨.slice B (l[i]).com.length c, fun d hd => ?_⟩
    rw [List.getElem?_eq_getElem hi] at hd
    injection hd with hd
    subst hd
    exact ⟨h1, h2, h3, h4, B, c, rfl, h5, h6, h7⟩
  obtain ⟨f, hf⟩ : ∃ f : Nat → Value, ∀ i, i < l.length → ∀ d, l[i]? = some d → w.cell? (ad.add (i * 4)) = some (.string d.key) ∧ w.cell? (ad.add (i * 4 + 1)) = some (.string d.raw) ∧ w.cell? (ad.add (i * 4 + 2)) = some (.string d.val) ∧ w.cell? (ad.add (i * 4 + 3)) = some (f i) ∧
      ∃ (B : Option Addr) (c : Nat), f i = .slice B d.com.length c ∧ RowA B d.com w ∧ d.com.length ≤ c ∧ d.com.length ≤ 9223372036854775807 := by
    classical
    exact ⟨fun i => if hi : i < l.length then Classical.choose (each i hi) else .nilIface, fun i hi => by
      simp only [dif_pos hi]
      exact Classical.choose_spec (each i hi)⟩
  refine ⟨(List.range l.length).map f, ⟨by simp, fun i d u hd hu => ?_⟩, fun j x hx => ?_⟩
  · have hi : i < l.length := (List.getElem?_eq_some_iff.1 hd).1
    rw [List.getElem?_map, List.getElem?_range hi] at hu
    injection hu with hu
    subst hu
    exact (hf i hi d hd).2.2.2.2
  · obtain ⟨i, r, v, rfl, hr, h1, h2⟩ := flat_at _ (zip4 l _) j x hx
    rw [List.getElem?_zipWith] at h1
    split at h1
    · rename_i d u hd hu
      injection h1 with h1
      subst h1
      have hi : i < l.length := (List.getElem?_eq_some_iff.1 hd).1
      rw [List.getElem?_map, List.getElem?_range hi] at hu
      injection hu with hu
      subst hu
      obtain ⟨g1, g2, g3, g4, _⟩ := hf i hi d hd
      match r, hr, h2 with
      | 0, _, h2 => injection h2 with h2; subst h2; exact g1
      | 1, _, h2 => injection h2 with h2; subst h2; exact g2
      | 2, _, h2 => injection h2 with h2; subst h2; exact g3
      | 3, _, h2 => injection h2 with h2; subst h2; exact g4
    · cases h1
theorem infoPr2 : (Tryz.prog.info? 34).map (fun i => (i.zero, i.size, i.bytes)) = some (some (.agg #[.string ⟨#[]⟩, .string ⟨#[]⟩, .string ⟨#[]⟩, .slice none 0 0]), 4, 72) := by kernel_rfl
/-- a row that is given, with its comments' slices named -/
def PrB (A : Option Addr) (l : List PropD) (us : List Value) (w : World) : Prop := ComsAt l us w ∧ ∀ (j : Nat) (x : Value), ((List.zipWith propV l us).flatten)[j]? = some x → ∃ ad, A = some ad ∧ w.cell? (ad.add j) = some x
theorem ComsAt.below {l : List PropD} {us : List Value} {w w' : World} (h : ComsAt l us w) (hb : Below w.heap.size w w') : ComsAt l us w' := ⟨h.1, fun i d u hd hu => by
  obtain ⟨B, c, e, h1, h2⟩ := h.2 i d u hd hu
  exact ⟨B, c, e, h1.below hb, h2⟩⟩
theorem PrB.below {A : Option Addr} {l : List PropD} {us : List Value} {w w' : World} (h : PrB A l us w) (hb : Below w.heap.size w w') : PrB A l us w' := ⟨h.1.below hb, fun j x hx => by
  obtain ⟨ad, e, hc⟩ := h.2 j x hx
  exact ⟨ad, e, (hb.cell (cell_lt hc)).trans hc⟩⟩
theorem PrA.prB {A : Option Addr} {l : List PropD} {w : World} (h : PrA A l w) : ∃ us, PrB A l us w := by
  cases A with
  | none =>
    have hl : l = [] := by
      cases l with
      | nil => rfl
      | cons d l => obtain ⟨ad, e, _⟩ := h 0 d rfl; cases e
    subst hl
    exact ⟨[], ⟨rfl, fun i d u hd => by simp at hd⟩, fun j x hx => by simp at hx⟩
  | some ad =>
    obtain ⟨us, h1, h2⟩ := h.row
    exact ⟨us, h1, fun j x hx => ⟨ad, rfl, h2 j x hx⟩⟩
set_option maxRecDepth 100000 in
/-- a given row is put behind one's own -/
theorem app_props {y : World} {B n m c : Nat} {v : Value} {xs : List Value} {A : Option Addr} {l : List PropD} {us : List Value} (ty : TypeId) (hv : y.ownsRow B 34 4 v n xs) (hr : PrB A l us y) (hm : l.length = m) (hA : A = none → c = 0 ∧ m = 0) (hb : B ≤ y.heap.size) (hnm : n + m ≤ 10000000000) :
    ∃ v' y', (Builtin.append_ #[25, 25] ty #[v, .slice A m c]).run Tryz.prog y = .ok v' y' ∧ y'.ownsRow B 34 4 v' (n + m) (xs ++ (List.zipWith propV l us).flatten) ∧ y.grownBy y' v.ownBlock := by
  obtain ⟨j0, hj, hy0, hy1, hy2⟩ := info_parts infoPr2
  cases A with
  | none =>
    obtain ⟨hc, hm0⟩ := hA rfl
    subst hc
    subst hm0
    have hl := List.eq_nil_of_length_eq_zero hm
    subst hl
    refine ⟨v, y, run_append_owned_none (P := Tryz.prog) (w := y) B 25 ty 34 j0 4 Tryz.underlying25 hj v n xs hv, ?_, ⟨rfl, rfl, rfl, Nat.le_refl _, fun _ _ _ => rfl⟩⟩
    simpa using hv
  | some ad =>
    obtain ⟨hu1, hu2⟩ := hr
    obtain ⟨v', y', hrn, h2, h3, _, _⟩ := run_append_own_at (P := Tryz.prog) y B 25 ty 34 j0 (.agg #[.string ⟨#[]⟩, .string ⟨#[]⟩, .string ⟨#[]⟩, .slice none 0 0]) 4 72 Tryz.underlying25 hj hy0 hy1 hy2 rfl (by decide) v n xs hv ad m c ((List.zipWith propV l us).flatten) (by rw [flat_len l us hu1.1, hm]) (fun j x hx => by
      obtain ⟨ad', e, hc⟩ := hu2 j x hx
      injection e with e
      subst e
      exact hc) (by
      intro x hx
      obtain ⟨k, hk⟩ := List.getElem?_of_mem hx
      obtain ⟨i, r, z, _, hr4, h1, h2⟩ := flat_at _ (zip4 l _) k x hk
      rw [List.getElem?_zipWith] at h1
      split at h1
      · rename_i d u hd hu
        injection h1 with h1
        subst h1
        obtain ⟨B', c', rfl, _⟩ := hu1.2 i d u hd hu
        match r, hr4, h2 with
        | 0, _, h2 => injection h2 with h2; subst h2; rfl
        | 1, _, h2 => injection h2 with h2; subst h2; rfl
        | 2, _, h2 => injection h2 with h2; subst h2; rfl
        | 3, _, h2 => injection h2 with h2; subst h2; rfl
      · cases h1) (by unfold maxLen; omega) (by omega) hb
    exact ⟨v', y', hrn, h2, h3⟩
theorem own_empty (w : World) : (w.alloc (.cells #[] 34)).ownsRow w.heap.size 34 4 (.slice (some ⟨w.heap.size, 0, none⟩) 0 0) 0 [] :=
  ⟨rfl, .inr ⟨w.heap.size, 0, #[], rfl, Nat.le_refl _, heap_alloc_new w _, Nat.le_refl _, by unfold maxLen; omega, rfl, rfl⟩⟩
theorem zip_app {l k : List PropD} {us vs : List Value} (h : us.length = l.length) : (List.zipWith propV (l ++ k) (us ++ vs)).flatten = (List.zipWith propV l us).flatten ++ (List.zipWith propV k vs).flatten := by
  rw [List.zipWith_append h.symm, List.flatten_append]
theorem ComsAt.app {l k : List PropD} {us vs : List Value} {w : World} (h : ComsAt l us w) (h' : ComsAt k vs w) : ComsAt (l ++ k) (us ++ vs) w := by
  refine ⟨by rw [List.length_append, List.length_append, h.1, h'.1], fun i d u hd hu => ?_⟩
  by_cases hi : i < l.length
  · rw [List.getElem?_append_left hi] at hd
    rw [List.getElem?_append_left (by rw [h.1]; exact hi)] at hu
    exact h.2 i d u hd hu
  · rw [List.getElem?_append_right (by omega)] at hd
    rw [List.getElem?_append_right (by rw [h.1]; omega), h.1] at hu
    exact h'.2 _ d u hd hu
/-- one's own row, as a row that is given -/
theorem prA_own {w : World} {B n : Nat} {v : Value} {l : List PropD} {us : List Value} (h : w.ownsRow B 34 4 v n ((List.zipWith propV l us).flatten)) (hn : l.length = n) (hc : ComsAt l us w) : ∃ A c, v = .slice A n c ∧ PrA A l w ∧ n ≤ c := by
  rcases h.2 with ⟨hv, h0⟩ | ⟨g, cap, cur, hv, hB, hg, hnc, _⟩
  · have hl : l = [] := List.eq_nil_of_length_eq_zero (hn.trans h0)
    subst hl
    exact ⟨none, 0, by rw [hv, h0], prA_nil _ _, by omega⟩
  · subst hv
    refine ⟨some ⟨g, 0, none⟩, cap, rfl, fun i d hd => ⟨⟨g, 0, none⟩, rfl, ?_⟩, hnc⟩
    have hi : i < n := by rw [← hn]; exact (List.getElem?_eq_some_iff.1 hd).1
    obtain ⟨u, hu⟩ : ∃ u, us[i]? = some u := ⟨_, List.getElem?_eq_getElem (by rw [hc.1, hn]; exact hi)⟩
    obtain ⟨z0, z1, z2, z3⟩ := prow_cells h hi hd hu
    obtain ⟨B', c', rfl, h1, h2, h3⟩ := hc.2 i d u hd hu
    refine ⟨?_, ?_, ?_, B', c', ?_, h1, h2, h3⟩
    · rw [add_at, Nat.zero_add]; exact z0
    · rw [add_at, Nat.zero_add]; exact z1
    · rw [add_at, Nat.zero_add]; exact z2
    · rw [add_at, Nat.zero_add]; exact z3
/-- what is written of a property without comments -/
def lineD (S : ByteArray) (e : Nat) (d : PropD) : List UInt8 := (encT qKey e d.key ++ S ++ encT ⟨#[]⟩ e d.raw ++ ⟨#[10]⟩ : ByteArray).data.toList
theorem fold_D (S : ByteArray) (e : Nat) (p : PSt) : ∀ (l : List PropD) (acc : List UInt8), (∀ d ∈ l, rawOf p.D d.key = d.raw) → (l.map (·.key)).foldl (addT S e false p) acc = acc ++ (l.map (lineD S e)).flatten := by
  intro l
  induction l with
  | nil => intro acc h; simp
  | cons d l ih =>
    intro acc h
    rw [List.map_cons, List.foldl_cons, ih _ (fun x hx => h x (List.mem_cons_of_mem _ hx))]
    have e1 : addT S e false p acc d.key = acc ++ lineD S e d := by
      unfold addT lineE lineD
      rw [h d List.mem_cons_self]
      rfl
    rw [e1, List.map_cons, List.flatten_cons, List.append_assoc]
theorem allE_D (S : ByteArray) (e : Nat) (l : List PropD) (hn : (l.map (·.key)).Nodup) : allE S e false (l.foldl addP pst0) (l.foldl addP pst0).ks = (l.map (lineD S e)).flatten := by
  obtain ⟨a1, a2, a3⟩ := fold_facts l pst0 isMap_empty hn (fun d hd => ⟨rfl, rfl⟩)
  have e0 : (l.foldl addP pst0).ks = l.map (·.key) := a1
  unfold allE
  rw [e0, fold_D S e _ l [] (fun d hd => (a3 d hd).1)]
  rfl
theorem lineD_len (S : ByteArray) (e : Nat) (d : PropD) (h : SZ d) (hS : S.size ≤ 10) : (lineD S e d).length ≤ 130000 := by
  have h1 := encT_size qKey e d.key
  have h2 := encT_size ⟨#[]⟩ e d.raw
  have h3 := h.k
  have h4 := h.v
  unfold lineD
  rw [← Lib.size_eq]
  have h5 : (encT qKey e d.key ++ S ++ encT ⟨#[]⟩ e d.raw ++ ⟨#[10]⟩ : ByteArray).size = (encT qKey e d.key).size + S.size + (encT ⟨#[]⟩ e d.raw).size + 1 := by simp [ByteArray.size_append]; rfl
  omega
theorem linesD_len (S : ByteArray) (e : Nat) (l : List PropD) (h : ∀ d ∈ l, SZ d) (hS : S.size ≤ 10) : ((l.map (lineD S e)).flatten).length ≤ 130000 * l.length := by
  induction l with
  | nil => exact Nat.zero_le _
  | cons d l ih =>
    have h1 := ih (fun x hx => h x (List.mem_cons_of_mem _ hx))
    have h2 := lineD_len S e d (h d List.mem_cons_self) hS
    rw [List.map_cons, List.flatten_cons, List.length_append, List.length_cons]
    omega
/-- small sizes of what is listed -/
theorem totP_mem {l : List PropD} {d : PropD} (h : d ∈ l) : totD d ≤ totP l := by
  unfold totP
  induction l with
  | nil => cases h
  | cons x l ih =>
    rw [List.map_cons, List.sum_cons]
    rcases List.mem_cons.1 h with rfl | h
    · omega
    · have := ih h; omega
theorem totP_len (l : List PropD) : l.length ≤ totP l := by
  unfold totP
  induction l with
  | nil => exact Nat.zero_le _
  | cons d l ih =>
    rw [List.map_cons, List.sum_cons, List.length_cons]
    unfold totD at *
    omega
theorem sumC_len (cs : List ByteArray) : cs.length ≤ sumC cs ∧ ∀ c ∈ cs, c.size ≤ sumC cs := by
  unfold sumC
  induction cs with
  | nil => exact ⟨Nat.zero_le _, fun c hc => by cases hc⟩
  | cons c cs ih =>
    rw [List.map_cons, List.sum_cons, List.length_cons]
    refine ⟨by have := ih.1; omega, fun x hx => ?_⟩
    rcases List.mem_cons.1 hx with rfl | h
    · omega
    · have := ih.2 x h; omega
theorem sz_of {nt : Bool} {l : List PropD} (h : LST nt l) (ht : totP l ≤ 1500) : ∀ d ∈ l, SZ d := by
  intro d hd
  have h1 := h.ok d hd
  have h2 := totP_mem hd
  unfold totD at h2
  have h3 := sumC_len d.com
  exact ⟨h1.k0, by omega, by omega, by omega, fun c hc => ⟨(h1.cm c hc).2.1, by have := h3.2 c hc; omega⟩,
    fun R hR => ⟨smallR_of (h1.ky.gr R hR) (h1.ky.sm R hR), by have := h1.ky.sm R hR; unfold smR at this; simp at this; omega⟩,
    fun R hR => ⟨smallR_of (h1.rw.gr R hR) (h1.rw.sm R hR), by have := h1.rw.sm R hR; unfold smR at this; simp at this; omega⟩⟩
def dAB : PropD := ⟨⟨#[97]⟩, ⟨#[98]⟩, ⟨#[]⟩, []⟩
theorem rn_a : rn ⟨#[97]⟩ = [97] := by decide +kernel
theorem rn_b : rn ⟨#[98]⟩ = [98] := by decide +kernel
theorem sz_ab : SZ dAB := by
  refine ⟨by decide, by decide, by decide, by decide, (fun c hc => by cases hc), fun R hR => ?_, fun R hR => ?_⟩
  · change R ∈ rn ⟨#[97]⟩ at hR
    rw [rn_a] at hR
    simp at hR
    subst hR
    exact ⟨⟨by decide, by decide, by decide⟩, by decide⟩
  · change R ∈ rn ⟨#[98]⟩ at hR
    rw [rn_b] at hR
    simp at hR
    subst hR
    exact ⟨⟨by decide, by decide, by decide⟩, by decide⟩
theorem text_ab : allE ⟨#[32, 61, 32]⟩ 1 false ([dAB].foldl addP pst0) ([dAB].foldl addP pst0).ks = [97, 32, 61, 32, 98, 10] := by
  rw [allE_T ⟨#[32, 61, 32]⟩ 1 false [dAB] (by simp) (fun d hd => ⟨fun R _ => .inl rfl, fun R _ => .inl rfl, by simp at hd; subst hd; exact .inr rfl⟩)]
  show ((if dAB.com = [] then [] else _) ++ (keyT (rn ⟨#[97]⟩) ++ ([32, 61, 32] ++ (valT (rn ⟨#[98]⟩) ++ [10])))) ++ [] = _
  rw [rn_a, rn_b]
  decide +kernel
end Go.Proofs.YtgmhigjhooihdaaGreatDoor
