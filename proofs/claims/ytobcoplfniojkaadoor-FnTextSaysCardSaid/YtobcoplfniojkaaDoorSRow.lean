/- Rows of runes: conversions there and back; laws.told; spec.settled on a row of texts. -/
import Derived.Test.YtobcoplfniojkaaDoorText
import Derived.Test.YtobcoplfniojkaaDoorSettled
import Derived.Lib.MapLaws
import Derived.Laws.Cover4
set_option linter.unusedVariables false
namespace Go.Proofs.YtobcoplfniojkaaDoor
open Go.RowKit Plain

theorem sr_add (R o j : Nat) : ((⟨R, o, none⟩ : Addr).add j) = ⟨R, o + j, none⟩ := by unfold Addr.add; split <;> simp_all
theorem sr_keep {w w' : World} {base : Nat} {e : TypeId} {size : Nat} {v : Value} {n : Nat} {xs : List Value} (h : w.ownsRow base e size v n xs) (k : ∀ g, v.ownBlock = some g → w'.heap[g]? = w.heap[g]?) : w'.ownsRow base e size v n xs := by
  refine ⟨h.1, ?_⟩
  rcases h.2 with hn | ⟨g, cap, cur, hv, h1, h2, h3⟩
  · exact .inl hn
  · exact .inr ⟨g, cap, cur, hv, h1, (k g (by rw [hv]; rfl)).trans h2, h3⟩
theorem sr_is {w : World} {base : Nat} {e : TypeId} {size : Nat} {v : Value} {n : Nat} {xs : List Value} (h : w.ownsRow base e size v n xs) {g : Nat} (hg : v.ownBlock = some g) : base ≤ g ∧ g < w.heap.size := by
  rcases h.2 with ⟨hv, _⟩ | ⟨g', cap, cur, hv, h1, h2, h3⟩
  · rw [hv] at hg; cases hg
  · rw [hv] at hg
    obtain rfl : g' = g := Option.some.inj hg
    exact ⟨h1, (Array.getElem?_eq_some_iff.1 h2).1⟩
theorem sr_shape {b0 e sz : Nat} {lv : Value} {n : Nat} {xs : List Value} {w : World} (h : w.ownsRow b0 e sz lv n xs) : ∃ A cap, lv = .slice A n cap := by
  rcases h.2 with ⟨hv, h0⟩ | ⟨g, cap, cur, hv, _⟩
  · exact ⟨none, 0, by rw [hv, h0]⟩
  · exact ⟨_, _, hv⟩
theorem sr_at {b0 : Nat} {A : Option Addr} {cap : Nat} {l : List Nat} {w : World} (h : w.ownsRow b0 21 1 (.slice A l.length cap) l.length (rcells l)) : RunesAt w A l := by
  rcases h.2 with ⟨hv, h0⟩ | ⟨g, cap', cur, hv, _⟩
  · injection hv with h1
    subst h1
    exact List.eq_nil_of_length_eq_zero h0
  · injection hv with h1 h2 h3
    subst h1
    intro j r hj
    have hjl : j < l.length := (List.getElem?_eq_some_iff.1 hj).1
    rw [sr_add, Nat.zero_add, h.cellAt j (by omega)]
    simp [rcells, hj]
theorem sr_runes (s : ByteArray) : ∀ (bound i : Nat) (acc : Array Value), s.size ≤ i + bound → Conv.runesFrom s bound i acc = acc ++ (rcells (rnsOf (s.data.toList.drop i))).toArray
  | 0, i, acc, h => by
    have e0 : s.data.toList.drop i = [] := List.drop_eq_nil_of_le (by rw [← Lib.size_eq]; omega)
    rw [e0]
    simp [Conv.runesFrom, rnsOf, segs_nil, rcells]
  | bound + 1, i, acc, h => by
    unfold Conv.runesFrom
    split
    · rename_i hi
      have hw := Lib.decode_width_pos s i hi
      dsimp only
      rw [sr_runes s bound _ _ (by omega), rnsOf_step s i hi]
      simp [rcells]
    · rename_i hi
      have e0 : s.data.toList.drop i = [] := List.drop_eq_nil_of_le (by rw [← Lib.size_eq]; omega)
      rw [e0]
      simp [rnsOf, segs_nil, rcells]
/-- '[]rune(s)' -/
theorem conv_runes (s : ByteArray) (w1 : World) (hs : s.size ≤ 2147483647) : ∃ (CAP : Nat) (W : World), (convert 9 24 (.string s)).run Tryd.prog w1 = .ok (.slice (some ⟨w1.heap.size, 0, none⟩) (rnsOf s.data.toList).length CAP) W ∧
    (rnsOf s.data.toList).length ≤ CAP ∧ RunesAt W (some ⟨w1.heap.size, 0, none⟩) (rnsOf s.data.toList) ∧ Below w1.heap.size w1 W ∧ w1.heap.size < W.heap.size := by
  have hA : Conv.runesFrom s s.size 0 #[] = (rcells (rnsOf s.data.toList)).toArray := by
    rw [sr_runes s s.size 0 #[] (by omega)]
    simp
  have hcv := run_runes_of_string (P := Tryd.prog) w1 9 24 21 s Tryd.underlying9 Tryd.underlying24 Tryd.underlying21 (by have := size_runesFrom s s.size 0 #[]; simp at this; omega)
  rw [hA, show ((rcells (rnsOf s.data.toList)).toArray).size = (rnsOf s.data.toList).length by simp [rcells]] at hcv
  refine ⟨_, _, hcv, grownCap_ge w1 _ 0 21, ?_, (Below.refl _ w1).drew.alloc (Nat.le_refl _) _, lt_of_block (heap_alloc_new w1.drew _)⟩
  intro j r hj
  have hjl : j < (rnsOf s.data.toList).length := (List.getElem?_eq_some_iff.1 hj).1
  rw [sr_add, Nat.zero_add]
  refine (Lib.cell_of_heap (heap_alloc_new w1.drew _) j).trans ?_
  simp [Array.getElem?_append, hjl, rcells]
  have h9 := (List.getElem?_eq_some_iff.1 hj).2
  rw [h9]
/-- 'string(rs)' -/
theorem conv_text (ad : Option Addr) (cap : Nat) (xs : List Nat) (w : World) (h : RunesAt w ad xs) : (convert 24 9 (.slice ad xs.length cap)).run Tryd.prog w = .ok (.string (textOf xs)) w := by
  cases ad with
  | none =>
    have hx : xs = [] := h
    subst hx
    rw [run_convert_runes_nil w 24 9 21 _ _ Tryd.underlying24 Tryd.underlying21 Tryd.underlying9]
    rfl
  | some a =>
    have hh : ∀ (j r : Nat), xs[j]? = some r → w.cell? (a.add j) = some (.int .i32 (r : Int)) := h
    have hr := run_convert_runes w 24 9 21 a xs.length cap (xs.map fun (n : Nat) => (n : Int)) (by simp) Tryd.underlying24 Tryd.underlying21 Tryd.underlying9 (fun j hj => by
      have hj' : j < xs.length := by simpa using hj
      rw [hh j xs[j] (List.getElem?_eq_getElem hj')]
      simp [List.getD, hj'])
    rw [hr, List.take_of_length_le (by simp)]
    congr 2
    have := runesBytes_list xs
    unfold textOf
    rw [← this]
/-- the row is kept -/
theorem runesAt_bl {w w' : World} {B g a : Nat} {xs : List Nat} (h : RunesAt w (some ⟨g, a, none⟩) xs) (hb : Below B w w') (hg : g < B) : RunesAt w' (some ⟨g, a, none⟩) xs := by
  intro j r hj
  have := h j r hj
  rw [sr_add] at this ⊢
  rw [hb.cell (p := ⟨g, a + j, none⟩) hg]
  exact this
theorem runesAt_drop {w : World} {g a : Nat} {xs : List Nat} (h : RunesAt w (some ⟨g, a, none⟩) xs) (k : Nat) : RunesAt w (some ⟨g, a + k, none⟩) (xs.drop k) := by
  intro j r hj
  rw [List.getElem?_drop] at hj
  have := h (k + j) r hj
  rw [sr_add] at this ⊢
  rw [Nat.add_assoc]
  exact this
theorem runesAt_take {w : World} {g a : Nat} {xs : List Nat} (h : RunesAt w (some ⟨g, a, none⟩) xs) (k : Nat) : RunesAt w (some ⟨g, a, none⟩) (xs.take k) := by
  intro j r hj
  rw [List.getElem?_take] at hj
  split at hj
  · exact h j r hj
  · cases hj
theorem textOf_valid (l : List UInt8) (h : Lib.validD l = true) : textOf (rnsOf l) = ⟨l.toArray⟩ := by
  apply ByteArray.ext
  apply Array.toList_inj.1
  unfold rnsOf
  rw [textOf_good _ (segs_good l h), segs_flatten]
/-- the texts are UTF-8 -/
theorem settled_row (l : List ByteArray) (n : Nat) (hn : l.length = n) (w : World) (hl : n ≤ 1000) (hs : ∀ x ∈ l, x.size ≤ 2147483647) (hT : Tabs w) (b : Bool) (hb : (l.all fun x => Lib.validD x.data.toList) = b) :
    Calls Tryd.prog 50 #[.slice (some ⟨w.heap.size, 0, none⟩) n n] (w.alloc (.cells (l.map Value.string).toArray 9)) fun e w' => e = .returned (.bool b) ∧ Below w.heap.size w w' := by
  have hb0 : Below w.heap.size w (w.alloc (.cells (l.map Value.string).toArray 9)) := (Below.refl _ w).alloc (Nat.le_refl _) _
  refine (settled_any w.heap.size n n l hn _ (by simp) (rowS_new w l _) hl hs (hT.below hb0) b hb).mono ?_
  rintro e w' ⟨rfl, hb⟩
  exact ⟨rfl, bthen hb0 hb⟩
theorem told_open (g x : ByteArray) (n : Int) (hn : n ≠ 1) (w : World) :
    Calls Tryd.prog 34 #[.string g, .string x, .int .i64 n] w fun e w' => e = .returned (.bool true) ∧ w = w' := by
  have hz : (n != 1) = true := by rw [bne_iff_ne]; exact hn
  have hz2 : (n == 1) = false := by rw [beq_eq_false_iff_ne]; exact hn
  go_enter Tryd.func34, Tryd.ntmps34
  go_wp2
  go_ret
  exact ⟨rfl, rfl⟩
theorem told_same (x : ByteArray) (w : World) :
    Calls Tryd.prog 34 #[.string x, .string x, .int .i64 1] w fun e w' => e = .returned (.bool true) ∧ w = w' := by
  have hz : (x.toList == x.toList) = true := by simp
  go_enter Tryd.func34, Tryd.ntmps34
  go_wp2
  go_ret
  exact ⟨rfl, rfl⟩
end Go.Proofs.YtobcoplfniojkaaDoor
