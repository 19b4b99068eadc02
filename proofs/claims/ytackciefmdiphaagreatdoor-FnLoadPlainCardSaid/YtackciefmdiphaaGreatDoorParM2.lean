/- The parser's memory where its loop begins; how long items' texts are. -/
import Derived.Test.YtackciefmdiphaaGreatDoorParM
set_option linter.unusedVariables false
namespace Go.Proofs.YtackciefmdiphaaGreatDoor
open Go.RowKit Plain Go.Maps

theorem textOf_size (l : List Nat) : (textOf l).size ≤ 4 * l.length := by
  have h : ∀ l : List Nat, ((l.map fun (n : Nat) => Lib.encodeRune (n : Int)).flatten).length ≤ 4 * l.length := by
    intro l
    induction l with
    | nil => simp
    | cons a l ih =>
      have := encode_len (a : Int)
      simp only [List.map_cons, List.flatten_cons, List.length_append, List.length_cons]
      omega
  rw [Lib.size_eq]
  unfold textOf
  rw [List.toList_toArray]
  exact h l
theorem keyL_len (s : ByteArray) (p : Nat) (acc : List Nat) : ∀ x, keyL s p acc = .ok x → x.1.length + p ≤ acc.length + x.2.1 := by
  fun_induction keyL s p acc with
  | case1 p acc h h1 hE => intro x hx; cases hx
  | case2 p acc h h1 y hE ih =>
    intro x hx
    have := scanE_gt s _ _ hE
    have := ih x hx
    have := kAt_pos s p h
    simp at *
    omega
  | case3 p acc h h1 h2 => intro x hx; injection hx with hx; subst hx; exact Nat.le_refl _
  | case4 p acc h h1 h2 ih =>
    intro x hx
    have hk := kAt_pos s p h
    have := ih x hx
    simp at *
    omega
  | case5 p acc h => intro x hx; injection hx with hx; subst hx; exact Nat.le_refl _
theorem valL_len (s : ByteArray) (p : Nat) (acc : List Nat) : ∀ x, valL s p acc = .ok x → x.1.length + p ≤ acc.length + x.2.1 := by
  fun_induction valL s p acc with
  | case1 p acc h h1 h2 ih =>
    intro x hx
    have hk := kAt_pos s p h
    have hk2 := kAt_pos s _ h2.1
    have hw := skipW_ge s (p + kAt s p + kAt s (p + kAt s p))
    have := ih x hx
    omega
  | case2 p acc h h1 h2 hE => intro x hx; cases hx
  | case3 p acc h h1 h2 y hE ih =>
    intro x hx
    have := scanE_gt s _ _ hE
    have := ih x hx
    have := kAt_pos s p h
    simp at *
    omega
  | case4 p acc h h1 h2 => intro x hx; injection hx with hx; subst hx; show acc.length + p ≤ acc.length + (p + kAt s p); omega
  | case5 p acc h h1 h2 ih =>
    intro x hx
    have hk := kAt_pos s p h
    have := ih x hx
    simp at *
    omega
  | case6 p acc h => intro x hx; injection hx with hx; subst hx; exact Nat.le_refl _
theorem comL_len (s : ByteArray) (p : Nat) (acc : List Nat) : (comL s p acc).1.length + p ≤ acc.length + (comL s p acc).2.1 := by
  fun_induction comL s p acc with
  | case1 p acc h h1 => show acc.length + p ≤ acc.length + (p + kAt s p); omega
  | case2 p acc h h1 ih =>
    have hk := kAt_pos s p h
    simp at *
    omega
  | case3 p acc h => exact Nat.le_refl _
theorem badEsc_size (s : ByteArray) (p : Nat) : (badEsc s p).size ≤ 100 := by
  unfold badEsc
  split <;> decide
theorem keyL_err (s : ByteArray) (p : Nat) (acc : List Nat) : ∀ e, keyL s p acc = .error e → e.size ≤ 100 := by
  fun_induction keyL s p acc with
  | case1 p acc h h1 hE => intro e he; injection he with he; subst he; exact badEsc_size _ _
  | case2 p acc h h1 y hE ih => exact ih
  | case3 p acc h h1 h2 => intro e he; cases he
  | case4 p acc h h1 h2 ih => exact ih
  | case5 p acc h => intro e he; cases he
theorem valL_err (s : ByteArray) (p : Nat) (acc : List Nat) : ∀ e, valL s p acc = .error e → e.size ≤ 100 := by
  fun_induction valL s p acc with
  | case1 p acc h h1 h2 ih => exact ih
  | case2 p acc h h1 h2 hE => intro e he; injection he with he; subst he; exact badEsc_size _ _
  | case3 p acc h h1 h2 y hE ih => exact ih
  | case4 p acc h h1 h2 => intro e he; cases he
  | case5 p acc h h1 h2 ih => exact ih
  | case6 p acc h => intro e he; cases he
theorem lexS_text (s : ByteArray) (nx : NX) (p : Nat) (hp : p ≤ s.size) : ∀ x ∈ (lexS s nx p).1, x.text.size ≤ 4 * s.size + 100 := by
  intro x hx
  unfold lexS at hx
  cases nx with
  | before =>
    dsimp only at hx
    (repeat' split at hx) <;> simp at hx
    subst hx
    show (0 : Nat) ≤ _
    omega
  | comment =>
    dsimp only at hx
    have h1 := comL_len s (skipW s p) []
    have h2 := comL_bd s (skipW s p) [] (skipW_le s p hp)
    split at hx
    · rename_i acc q hc
      rw [hc] at h1 h2
      simp at hx h1
      subst hx
      have := textOf_size acc
      show (textOf acc).size ≤ _
      have := h2.2.1
      simp at this
      omega
    · rename_i acc q hc
      rw [hc] at h1 h2
      simp at hx h1
      subst hx
      have := textOf_size acc
      show (textOf acc).size ≤ _
      have := h2.2.1
      simp at this
      omega
  | key =>
    dsimp only at hx
    split at hx
    · rename_i e he
      simp at hx
      subst hx
      have := keyL_err s p [] e he
      show e.size ≤ _
      omega
    · rename_i acc q b hk
      have h1 := keyL_len s p [] _ hk
      have h2 := keyL_bd s p [] hp _ hk
      have h3 := textOf_size acc
      simp at h1 h2
      rcases List.mem_append.1 hx with hx | hx
      · split at hx
        · cases hx
        · simp at hx
          subst hx
          show (textOf acc).size ≤ _
          omega
      · split at hx
        · simp at hx
          subst hx
          show (0 : Nat) ≤ _
          omega
        · cases hx
  | bval => simp at hx
  | val =>
    dsimp only at hx
    split at hx
    · rename_i e he
      simp at hx
      subst hx
      have := valL_err s p [] e he
      show e.size ≤ _
      omega
    · rename_i acc q b hk
      have h1 := valL_len s p [] _ hk
      have h2 := valL_bd s p [] hp _ hk
      have h3 := textOf_size acc
      simp at h1 h2
      rcases List.mem_append.1 hx with hx | hx
      · simp at hx
        subst hx
        show (textOf acc).size ≤ _
        omega
      · split at hx
        · simp at hx
          subst hx
          show (0 : Nat) ≤ _
          omega
        · cases hx
theorem lexN_text (s : ByteArray) : ∀ (f : Nat) (nx : NX) (p : Nat), p ≤ s.size → ∀ x ∈ lexN s f nx p, x.text.size ≤ 4 * s.size + 100 := by
  intro f
  induction f with
  | zero => intro nx p hp x hx; cases hx
  | succ f ih =>
    intro nx p hp x hx
    unfold lexN at hx
    rcases List.mem_append.1 hx with hx | hx
    · exact lexS_text s nx p hp x hx
    · have hm := lexS_mu s nx p hp
      cases hr : (lexS s nx p).2 with
      | none => rw [hr] at hx; cases hx
      | some y =>
        rw [hr] at hx
        exact ih y.1 y.2 (hm y hr).2.1 x hx
theorem lexL_text (s : ByteArray) : ∀ x ∈ lexL s, x.text.size ≤ 4 * s.size + 100 := lexN_text s _ _ 0 (Nat.zero_le _)
theorem lexN_len (s : ByteArray) : ∀ (f : Nat) (nx : NX) (p : Nat), (lexN s f nx p).length ≤ 2 * f := by
  intro f
  induction f with
  | zero => intro nx p; simp [lexN]
  | succ f ih =>
    intro nx p
    unfold lexN
    have h1 := lexS_len s nx p
    cases hr : (lexS s nx p).2 with
    | none => simp; omega
    | some y =>
      have := ih y.1 y.2
      simp
      omega
theorem itemsC_at (l : List LI) : ∀ (i : Nat) (x : LI), l[i]? = some x → (itemsC l)[3 * i]? = some (.int .i64 (x.kind : Int)) ∧ (itemsC l)[3 * i + 1]? = some (.int .i64 (x.pos : Int)) ∧ (itemsC l)[3 * i + 2]? = some (.string x.text) := by
  induction l with
  | nil => intro i x hx; simp at hx
  | cons a l ih =>
    intro i x hx
    have e : itemsC (a :: l) = itemC a ++ itemsC l := by simp [itemsC]
    rw [e]
    cases i with
    | zero =>
      simp at hx
      subst hx
      exact ⟨rfl, rfl, rfl⟩
    | succ i =>
      have := ih i x (by simpa using hx)
      have hl : (itemC a).length = 3 := rfl
      refine ⟨?_, ?_, ?_⟩
      · rw [List.getElem?_append_right (by rw [hl]; omega), hl, show 3 * (i + 1) - 3 = 3 * i by omega]; exact this.1
      · rw [List.getElem?_append_right (by rw [hl]; omega), hl, show 3 * (i + 1) + 1 - 3 = 3 * i + 1 by omega]; exact this.2.1
      · rw [List.getElem?_append_right (by rw [hl]; omega), hl, show 3 * (i + 1) + 2 - 3 = 3 * i + 2 by omega]; exact this.2.2
theorem LY.it {B lb pos start : Nat} {s : ByteArray} {rs : List Nat} {its : List LI} {w : World} (h : LY B lb s pos start rs its w) (hne : its ≠ []) : ∃ g, IT lb g s its w := by
  obtain ⟨wd, ⟨⟨st, lp, rv, iv, h1, h2, h3, h4⟩, h5⟩⟩ := h
  have hl : 0 < its.length := List.length_pos_iff.2 hne
  rcases h3.2 with ⟨_, h0⟩ | ⟨g, cap, cur, hv, hB, hg, hn, hc, hcs, htk⟩
  · omega
  · subst hv
    refine ⟨g, st, pos, start, wd, lp, rv, 0, cap, cur, h1, hn, by unfold maxLen at hc; omega, fun i x hx => ?_, hg⟩
    obtain ⟨a1, a2, a3⟩ := itemsC_at its i x hx
    have hget : ∀ (j : Nat) (u : Value), (itemsC its)[j]? = some u → w.cell? ⟨g, 0 + j, none⟩ = some u := fun j u hu => by
      rw [Nat.zero_add, Lib.cell_of_heap hg]
      have htk2 : cur.toList.take (its.length * 3) = itemsC its := htk
      rw [← htk2] at hu
      have hj : j < its.length * 3 := by
        have := (List.getElem?_eq_some_iff.1 hu).1
        rw [List.length_take] at this
        omega
      rw [List.getElem?_take_of_lt hj] at hu
      simpa using hu
    exact ⟨hget _ _ a1, hget _ _ a2, hget _ _ a3⟩
theorem row_base {w : World} {base base' sz : Nat} {e : TypeId} {v : Value} {n : Nat} {xs : List Value} (h : w.ownsRow base e sz v n xs) (hb : base' ≤ base) : w.ownsRow base' e sz v n xs := by
  refine ⟨h.1, ?_⟩
  rcases h.2 with hn | ⟨g, cap, cur, hv, h1, h2⟩
  · exact .inl hn
  · exact .inr ⟨g, cap, cur, hv, Nat.le_trans hb h1, h2⟩
theorem PQ.base {B B' pb mb mc n nc : Nat} {p : PSt} {DC : DataW Value} {lv : Value} {w : World} (h : PQ B pb mb mc n nc p DC lv w) (hb : B' ≤ B) : PQ B' pb mb mc n nc p DC lv w :=
  ⟨h.blk, h.mp, h.cp, row_base h.row hb, Nat.le_trans hb h.lo.1, Nat.le_trans hb h.lo.2.1, Nat.le_trans hb h.lo.2.2.1, h.lo.2.2.2⟩
theorem PQ.below {B pb mb mc n nc : Nat} {p : PSt} {DC : DataW Value} {lv : Value} {w w' : World} (h : PQ B pb mb mc n nc p DC lv w) (hb : Below w.heap.size w w') : PQ B pb mb mc n nc p DC lv w' :=
  ⟨(hb.block _ (lx_lt h.blk)).trans h.blk, mp_keep h.mp (hb.block _ (map_lt (mp_is h.mp))), mpc_keep h.cp (hb.block _ (map_lt (mpc_is h.cp))), row_keep h.row (fun g hg => hb.block g (row_lt h.row hg).2), h.lo⟩
end Go.Proofs.YtackciefmdiphaaGreatDoor
