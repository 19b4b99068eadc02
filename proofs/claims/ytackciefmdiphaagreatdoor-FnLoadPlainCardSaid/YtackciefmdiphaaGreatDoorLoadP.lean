/- Loaded properties in memory: got, listed. -/
import Derived.Test.YtackciefmdiphaaGreatDoorMapW
import Derived.Test.YtackciefmdiphaaGreatDoorItLaw
import Derived.Laws.AppendOwnNone
set_option linter.unusedVariables false
namespace Go.Proofs.YtackciefmdiphaaGreatDoor
open Go.RowKit Plain Go.Maps

/-- properties at 'pb', expanded or not -/
structure LP (B pb mb mc n nc : Nat) (p : PSt) (DC : DataW Value) (lv : Value) (dis : Bool) (w : World) : Prop where
  blk : w.heap[pb]? = some (.cells #[.string ⟨#[36, 123]⟩, .string ⟨#[125]⟩, .bool dis, .map (some mb), .map (some mc), lv, .string ⟨#[]⟩] 86 (0, 0))
  mp : MpS w mb n p.D
  cp : MpC w mc nc DC
  row : w.ownsRow B 9 1 lv p.ks.length (p.ks.map Value.string)
  cr : CRel B DC p.cf lv (.slice none 0 0) w
  lo : B ≤ pb ∧ B ≤ mb ∧ B ≤ mc
theorem LP.below {B pb mb mc n nc : Nat} {p : PSt} {DC : DataW Value} {lv : Value} {dis : Bool} {w w' : World} (h : LP B pb mb mc n nc p DC lv dis w) (hb : Below w.heap.size w w') : LP B pb mb mc n nc p DC lv dis w' :=
  ⟨(hb.block pb (lt_of_block h.blk)).trans h.blk, mp_keep h.mp (hb.block mb (map_lt (mp_is h.mp))), mpc_keep h.cp (hb.block mc (map_lt (mpc_is h.cp))), row_keep h.row (fun g hg => hb.block g (row_lt h.row hg).2), h.cr.keep (fun g cs hg _ _ => hb.block g (lt_of_block hg)) (.inl rfl) (.inl rfl), h.lo⟩
theorem LP.of {B pb mb mc n nc : Nat} {p : PSt} {DC : DataW Value} {lv : Value} {w : World} (dis : Bool) (h : PQ B pb mb mc n nc p DC lv w) (hc : CRel B DC p.cf lv (.slice none 0 0) w) : LP B pb mb mc n nc p DC lv dis (w.setCell ⟨pb, 2, none⟩ (.bool dis)) := by
  have hkp : ∀ j, j ≠ pb → (w.setCell ⟨pb, 2, none⟩ (.bool dis)).heap[j]? = w.heap[j]? := fun j hj => Below.heap_setCell _ _ _ _ hj
  have hne : ∀ {k : Nat} {c : Array Value}, w.heap[k]? = some (.cells c 9 (0, 0)) → k ≠ pb := fun h1 e => by
    subst e
    rw [h.blk] at h1
    injection h1 with h1
    injection h1 with _ h1
    exact absurd h1 (by decide)
  refine ⟨seven_set h.blk 2, mp_keep h.mp (hkp mb (fun e => by obtain ⟨es, c, h1⟩ := mp_is h.mp; rw [e, h.blk] at h1; cases h1)), mpc_keep h.cp (hkp mc (fun e => by obtain ⟨es, c, h1⟩ := mpc_is h.cp; rw [e, h.blk] at h1; cases h1)), row_keep h.row (fun g hg => by obtain ⟨cs, h1⟩ := row_cells h.row hg; exact hkp g (hne h1)), hc.keep (fun g cs h1 _ _ => hkp g (hne h1)) (.inl rfl) (.inl rfl), h.lo.1, h.lo.2.1, h.lo.2.2.1⟩
set_option maxRecDepth 100000 in
/-- a look-up in properties that are not expanded -/
theorem getL_any (B pb mb mc n nc : Nat) (p : PSt) (DC : DataW Value) (lv : Value) (k : ByteArray) (w : World) (h : LP B pb mb mc n nc p DC lv true w) (hk : k.size ≤ 2147483647) :
    Calls Tryz.prog 54 #[.pointer (some ⟨pb, 0, none⟩), .string k] w fun e w' => e = .returned (.tuple #[.string (rawOf p.D k), .bool (Maps.has p.D (keyL8 k))]) ∧ w' = w := by
  obtain ⟨c2, c3, _⟩ := seven_cells h.blk
  have HM := Lib.hid h.mp
  have hkm : k.size ≤ maxLen := by unfold maxLen; omega
  clear h
  go_enter Tryz.func54, Tryz.ntmps54
  go_wp2_with (at_lookup; refine wpList_lookup_own_ok _ rfl _ _ 83 rfl 9 9 lawS Tryz.underlying83 (plainElem Tryz.prog 9) (zeroS _) (.lit (.string [])) [] (plainElem_string Tryz.underlying9 (by unfold maxLen; decide)) mb n p.D rfl HM.out _ _ rfl (WideMaps.keyOf_string_mk Tryz.underlying9 hkm) ?_)
  intro v ps hv
  obtain ⟨s, rfl, hz, hs⟩ := plainElem_string_inv Tryz.underlying9 hv
  have HZ := Lib.hid (congrArg Prod.fst hz)
  clear hv hz
  generalize hg : Maps.has p.D (.string k.data.toList) = hb
  have HG := Lib.hid hg
  clear hg
  go_wp2
  go_ret2
  have e1 : rawOf p.D k = s := rawOf_of HZ.out
  have e2 : Maps.has p.D (keyL8 k) = hb := HG.out
  rw [e1, e2]
  exact ⟨rfl, rfl⟩
set_option maxRecDepth 100000 in
/-- the keys, whatever their slice -/
theorem keysN_any (B pb n : Nat) (lv : Value) (xs : List Value) (w : World) (c5 : w.cell? ⟨pb, 5, none⟩ = some lv) (h : w.ownsRow B 9 1 lv n xs) (hn : n ≤ 10000000) (h1 : ∀ v ∈ xs, v.oneCell' = true) :
    Calls Tryz.prog 51 #[.pointer (some ⟨pb, 0, none⟩)] w (KeysPost n xs w) := by
  rcases h.2 with ⟨rfl, rfl⟩ | ⟨g, cap, cur, rfl, _⟩
  · obtain rfl : xs = [] := List.eq_nil_of_length_eq_zero (by simpa using h.1)
    unfold KeysPost
    obtain ⟨i0, hi, hz0, hz1, hz2⟩ := info_parts infoStr
    have hsz1 : ((Tryz.prog.info? 9).map (·.size)).isSome = true := by rw [hi]; rfl
    have HS1 := Lib.hid hsz1
    have hpl := Lib.lt_of_cell c5
    clear h h1 hsz1
    go_enter Tryz.func51, Tryz.ntmps51
    go_wp2_with (first | (at_make; refine wpList_make_full _ rfl _ _ 22 rfl w.heap.size 9 i0 (.string ⟨#[]⟩) 1 Tryz.underlying22 hi hz0 hz1 .i64 .i64 _ _ 0 rfl rfl rfl rfl (by rw [hz2]; omega) (by unfold maxLen; omega) (Nat.le_refl _) ?_; intro w1 how hgw; have d5 := key_cell hgw c5; have hcp := run_copy_nil (P := Tryz.prog) w1 22 22 3 9 ⟨w.heap.size, 0, none⟩ 0 0 Tryz.underlying22 HS1.out; have HOW := Lib.hid how; have HGW := Lib.hid hgw; clear how hgw c5))
    go_ret
    exact ⟨w.heap.size, rfl, by simpa [madeCells] using HOW.out, (Below.refl _ w).grown HGW.out (Nat.le_refl _) (fun g hg => by cases hg)⟩
  · exact keys_any B pb g cap n xs w c5 h hn h1
/-- a property as it is told -/
structure PropD where
  key : ByteArray
  raw : ByteArray
  val : ByteArray
  com : List ByteArray
def propV (d : PropD) (u : Value) : List Value := [.string d.key, .string d.raw, .string d.val, u]
/-- a row of properties -/
def PRow (B : Nat) (v : Value) (l : List PropD) (w : World) : Prop :=
  ∃ us : List Value, us.length = l.length ∧ w.ownsRow B 31 4 v l.length (List.zipWith propV l us).flatten ∧ ∀ (i : Nat) (d : PropD) (u : Value), l[i]? = some d → us[i]? = some u → w.ownsRow B 9 1 u d.com.length (d.com.map Value.string)
theorem PRow.below {B : Nat} {v : Value} {l : List PropD} {w w' : World} (h : PRow B v l w) (hb : Below w.heap.size w w') : PRow B v l w' := by
  obtain ⟨us, h1, h2, h3⟩ := h
  exact ⟨us, h1, row_keep h2 (fun g hg => hb.block g (row_lt h2 hg).2), fun i d u hd hu => row_keep (h3 i d u hd hu) (fun g hg => hb.block g (row_lt (h3 i d u hd hu) hg).2)⟩
theorem PRow.base {B B' : Nat} {v : Value} {l : List PropD} {w : World} (h : PRow B v l w) (hb : B' ≤ B) : PRow B' v l w := by
  obtain ⟨us, h1, h2, h3⟩ := h
  exact ⟨us, h1, row_base h2 hb, fun i d u hd hu => row_base (h3 i d u hd hu) hb⟩
theorem PRow.nil (B : Nat) (w : World) : PRow B (.slice none 0 0) [] w := ⟨[], rfl, ⟨rfl, .inl ⟨rfl, rfl⟩⟩, fun i d u h => by simp at h⟩
/-- one property more -/
theorem PRow.snoc {B : Nat} {v' : Value} {l : List PropD} {d : PropD} {u : Value} {w' : World} {us : List Value} (h1 : us.length = l.length) (h2 : w'.ownsRow B 31 4 v' (l.length + 1) ((List.zipWith propV l us).flatten ++ propV d u))
    (h3 : ∀ (i : Nat) (d : PropD) (u : Value), l[i]? = some d → us[i]? = some u → w'.ownsRow B 9 1 u d.com.length (d.com.map Value.string)) (h4 : w'.ownsRow B 9 1 u d.com.length (d.com.map Value.string)) : PRow B v' (l ++ [d]) w' := by
  refine ⟨us ++ [u], by simp [h1], ?_, fun i d' u' hd hu => ?_⟩
  · rw [List.zipWith_append h1.symm]
    simpa using h2
  · by_cases hi : i < l.length
    · rw [List.getElem?_append_left hi] at hd
      rw [List.getElem?_append_left (by omega)] at hu
      exact h3 i d' u' hd hu
    · rw [List.getElem?_append_right (by omega)] at hd
      rw [List.getElem?_append_right (by omega)] at hu
      rw [h1] at hu
      obtain ⟨hi0, rfl⟩ : i - l.length = 0 ∧ d = d' := by
        cases h9 : i - l.length with
        | zero => rw [h9] at hd; simp at hd; exact ⟨rfl, hd⟩
        | succ k => rw [h9] at hd; simp at hd
      rw [hi0] at hu
      simp at hu
      subst hu
      exact h4
end Go.Proofs.YtackciefmdiphaaGreatDoor
