/- The text of a list of runes; some facts on rows. -/
import Derived.Test.YtdgaehkfdaacjaaDoorPatMem
set_option linter.unusedVariables false
namespace Go.Proofs.YtdgaehkfdaacjaaDoor
open Go.RowKit Plain
theorem runesBytes_list (ns : List Nat) : (runesBytes (ns.map fun (n : Nat) => (n : Int))).data.toList = (ns.map fun (n : Nat) => Lib.encodeRune (n : Int)).flatten := by
  have key : ∀ (ns : List Nat) (s : ByteArray), ((ns.map fun (n : Nat) => (n : Int)).foldl (fun r n => r ++ Utf8.encode n) s).data.toList = s.data.toList ++ (ns.map fun (n : Nat) => Lib.encodeRune (n : Int)).flatten := by
    intro ns
    induction ns with
    | nil => intro s; simp
    | cons n ns ih =>
      intro s
      rw [List.map_cons, List.foldl_cons, ih]
      simp [encode_list]
  have := key ns ByteArray.empty
  simpa [runesBytes] using this
/-- the text of runes -/
def textOf (xs : List Nat) : ByteArray := ⟨((xs.map fun (n : Nat) => Lib.encodeRune (n : Int)).flatten).toArray⟩
theorem textOf_good (cs : List (List UInt8)) (h : ∀ c ∈ cs, Plain.Good c) : (textOf (cs.map runeOf)).data.toList = cs.flatten := by
  unfold textOf
  rw [List.toList_toArray, List.map_map]
  congr 1
  conv => rhs; rw [← List.map_id cs]
  apply List.map_congr_left
  intro c hc
  exact encode_runeOf c (h c hc)
theorem textOf_valid (l : List UInt8) (h : Lib.validD l = true) : textOf (rnsOf l) = ⟨l.toArray⟩ := by
  apply ByteArray.ext
  apply Array.toList_inj.1
  unfold rnsOf
  rw [textOf_good _ (segs_good l h), segs_flatten]
/-- 'string(rs)' -/
theorem conv_own {b0 : Nat} {lv : Value} {l : List Nat} {w : World} (h : w.ownsRow b0 21 1 lv l.length (l.map rcell)) :
    (convert 33 9 lv).run Tryd.prog w = .ok (.string (textOf l)) w := by
  rcases h.2 with ⟨hv, h0⟩ | ⟨g, cap, cur, hv, _⟩
  · subst hv
    rw [run_convert_runes_nil w _ _ _ 0 0 Tryd.underlying33 Tryd.underlying21 Tryd.underlying9]
    rw [List.eq_nil_of_length_eq_zero h0]
    rfl
  · subst hv
    have hr := run_convert_runes (P := Tryd.prog) w 33 9 21 ⟨g, 0, none⟩ l.length cap (l.map fun (n : Nat) => (n : Int)) (by simp) Tryd.underlying33 Tryd.underlying21 Tryd.underlying9 (fun j hj => by
      have hjl : j < l.length := by simpa using hj
      rw [add_at, Nat.zero_add, h.cellAt j (by omega)]
      rw [List.getElem?_map, List.getElem?_eq_getElem hjl]
      simp [rcell, hjl, List.getD])
    rw [hr, List.take_of_length_le (by simp)]
    congr 2
    have := runesBytes_list l
    unfold textOf
    rw [← this]
theorem row_shape {b0 e sz : Nat} {lv : Value} {n : Nat} {xs : List Value} {w : World} (h : w.ownsRow b0 e sz lv n xs) : ∃ A cap, lv = .slice A n cap := by
  rcases h.2 with ⟨hv, h0⟩ | ⟨g, cap, cur, hv, _⟩
  · exact ⟨none, 0, by rw [hv, h0]⟩
  · exact ⟨_, _, hv⟩
theorem row_len {b0 e sz : Nat} {lv : Value} {n : Nat} {xs : List Value} {w : World} (h : w.ownsRow b0 e sz lv n xs) : n ≤ 9223372036854775807 := by
  rcases h.2 with ⟨hv, h0⟩ | ⟨g, cap, cur, hv, _, _, h1, h2, _⟩
  · omega
  · unfold maxLen at h2; omega
theorem iter_other (w : World) (k : Nat) (s : ByteArray) (p : Nat) {g : Nat} (h : g ≠ k) : (w.iterAt k s p).heap[g]? = w.heap[g]? := by
  simp [World.iterAt, Ne.symm h]
end Go.Proofs.YtdgaehkfdaacjaaDoor
