/- The walk of laws.eqTexts: two lists of texts that are equal. -/
import Derived.Test.YtdomnccokhhieaaDoorWords
import Derived.Deep.QuietTactic
import Derived.BigQuiet
namespace Go.Proofs.YtdomnccokhhieaaDoor
open Go.RowKit Plain

theorem drewN_below {B : Nat} {a w : World} (h : Below B a w) (n : Nat) : Below B a (w.drewN n) := h.trans ⟨rfl, rfl, rfl, Nat.le_refl _, fun _ _ => rfl⟩
/-- where a list of texts lies -/
def TextsAt (w : World) (g : Nat) (l : List (List UInt8)) : Prop := ∀ (j : Nat) (x : List UInt8), l[j]? = some x → w.cell? ⟨g, j, none⟩ = some (.string ⟨x.toArray⟩)
theorem textsAt_own {w : World} {B : Nat} {v : Value} {n : Nat} {l : List (List UInt8)} (h : w.ownsRow B 9 1 v n (strs l)) : n = l.length ∧ ((v = .slice none 0 0 ∧ l = []) ∨ ∃ g cap, v = .slice (some ⟨g, 0, none⟩) n cap ∧ B ≤ g ∧ g < w.heap.size ∧ TextsAt w g l) := by
  have hn : n = l.length := by have := h.1; simp [strs] at this; omega
  refine ⟨hn, ?_⟩
  rcases h.2 with ⟨hv, h0⟩ | ⟨g, cap, cur, hv, hB, hg, hnc, hcm, hcs, htk⟩
  · exact .inl ⟨hv, List.eq_nil_of_length_eq_zero (by omega)⟩
  · refine .inr ⟨g, cap, hv, hB, (Array.getElem?_eq_some_iff.1 hg).1, fun j x hj => ?_⟩
    rw [Lib.cell_of_heap hg]
    have hlt : j < l.length := (List.getElem?_eq_some_iff.1 hj).1
    have hx : (strs l)[j]? = some (.string ⟨x.toArray⟩) := by simp [strs, hj]
    rw [← htk, List.getElem?_take, if_pos (by omega)] at hx
    rw [← Array.getElem?_toList]
    exact hx
theorem TextsAt.below {w w' : World} {B g : Nat} {l : List (List UInt8)} (h : TextsAt w g l) (hb : Below B w w') (hg : g < B) : TextsAt w' g l := fun j x hj => by
  rw [hb.cell (p := ⟨g, j, none⟩) hg]; exact h j x hj

set_option maxHeartbeats 2000000 in
set_option maxRecDepth 100000 in
theorem eqTexts_any (g1 g2 c1 c2 n : Nat) (l : List (List UInt8)) (w : World) (hn : l.length = n) (hnb : n ≤ 2147483647) (h1 : TextsAt w g1 l) (h2 : TextsAt w g2 l) (hg1 : g1 < w.heap.size) (hg2 : g2 < w.heap.size) :
    Calls Tryd.prog 19 #[.slice (some ⟨g1, 0, none⟩) n c1, .slice (some ⟨g2, 0, none⟩) n c2] w fun e w' => e = .returned (.bool true) ∧ Below w.heap.size w w' := by
  have HN := Lib.hid hn
  have H1 := Lib.hid h1
  have H2 := Lib.hid h2
  clear hn h1 h2
  go_enter Tryd.func19, Tryd.ntmps19
  go_wp2
  go_loopw [5, 13] (fun _ iv wr => ∃ (i : Nat), iv = .int .i64 i ∧ i ≤ n ∧ Below w.heap.size w wr) (fun _ iv _ => match iv with | .int _ i => n - i.toNat | _ => 0)
  case atStart => exact ⟨0, rfl, Nat.zero_le _, Below.refl _ _⟩
  case round =>
    obtain ⟨i, rfl, hin, hbw⟩ := hrel
    by_cases hlt : i < n
    · have hz : (i : Int) < (n : Int) := by omega
      obtain ⟨x, hx⟩ : ∃ x, l[i]? = some x := ⟨l[i]'(by rw [HN.out]; exact hlt), List.getElem?_eq_getElem _⟩
      have k1 : wr.cell? ⟨g1, i, none⟩ = some (.string ⟨x.toArray⟩) := H1.out.below hbw hg1 i x hx
      have k2 : wr.cell? ⟨g2, i, none⟩ = some (.string ⟨x.toArray⟩) := H2.out.below hbw hg2 i x hx
      have HX := Lib.hid hx
      clear hx
      generalize (⟨x.toArray⟩ : ByteArray) = X at k1 k2
      go_wp2
      go_quiet (fail)
      go_wp2
      go_roundw
      case rel => exact ⟨i + 1, by go_num, by omega, drewN_below hbw _⟩
      case measure => show n - ((i : Int) + 1).toNat < n - (i : Int).toNat; omega
    · have hz : ¬ (i : Int) < (n : Int) := by omega
      go_wp2
      go_ret
      exact ⟨rfl, hbw⟩

set_option maxRecDepth 100000 in
theorem eqTexts_zero (a1 a2 : Option Addr) (c1 c2 : Nat) (w : World) :
    Calls Tryd.prog 19 #[.slice a1 0 c1, .slice a2 0 c2] w fun e w' => e = .returned (.bool true) ∧ Below w.heap.size w w' := by
  go_enter Tryd.func19, Tryd.ntmps19
  go_wp2
  go_loopw [5, 13] (fun _ iv wr => iv = .int .i64 0 ∧ wr = w) (fun _ _ _ => 0)
  case atStart => exact ⟨rfl, rfl⟩
  case round =>
    obtain ⟨rfl, rfl⟩ := hrel
    go_wp2
    go_ret
    exact ⟨rfl, Below.refl _ _⟩

theorem implWordSplit_any (s : ByteArray) (w : World) (hs : s.size ≤ 2147483647) (hT : Tabs w) (hP : PTab w) (hV : LTab w) (L : List (List UInt8)) (hL : ws (segs s.data.toList) none = L) :
    Calls Tryd.prog 18 #[.string s] w fun e w' => ∃ ad cap, e = .returned (.slice ad L.length cap) ∧ w'.ownsRow w.heap.size 9 1 (.slice ad L.length cap) L.length (strs L) ∧ Below w.heap.size w w' := by
  have cC := Lib.hid (hL ▸ wordSplit_any s w hs hT hP hV)
  clear hL
  go_enter Tryd.func18, Tryd.ntmps18
  go_wp2_with (go_at_call 38; (with_reducible refine cC.out.mono ?_); rintro e w1 ⟨ad, cap, rfl, hown, hb⟩; dsimp only)
  go_wp2
  go_ret
  exact ⟨ad, cap, rfl, hown, hb⟩
theorem ws_split (cs : List (List UInt8)) (b : List (List UInt8)) (sp : List UInt8) (h1 : alpha (runeOf sp) = false) (h2 : ¬ (runeOf sp = 39 ∨ runeOf sp = 45)) : ∀ st, ws (cs ++ sp :: b) st = ws cs st ++ ws b none := by
  induction cs with
  | nil =>
    intro st
    cases st with
    | none => rw [List.nil_append, ws_skip _ _ h1]; simp [ws]
    | some w => rw [List.nil_append, ws_end _ _ _ h1 h2]; simp [ws]
  | cons c cs ih =>
    intro st
    rw [List.cons_append]
    cases ha : alpha (runeOf c) with
    | true => rw [ws_alpha _ _ _ ha, ws_alpha _ _ _ ha, ih]
    | false =>
      cases st with
      | none => rw [ws_skip _ _ ha, ws_skip _ _ ha, ih]
      | some w =>
        by_cases hk : runeOf c = 39 ∨ runeOf c = 45
        · rw [ws_mark _ _ _ ha hk, ws_mark _ _ _ ha hk, ih]
        · rw [ws_end _ _ _ ha hk, ws_end _ _ _ ha hk, ih]; rfl
theorem alpha_blank : alpha (runeOf [32]) = false ∧ ¬ (runeOf [32] = 39 ∨ runeOf [32] = 45) := by decide +kernel
theorem words_apart (a b : List UInt8) (ha : Lib.validD a = true) : ws (segs ((a ++ [32]) ++ b)) none = ws (segs a) none ++ ws (segs b) none := by
  rw [List.append_assoc, segs_append a _ ha, List.singleton_append, segs_ascii 32 b (by decide)]
  exact ws_split _ _ _ alpha_blank.1 alpha_blank.2 none
theorem ws_ab : ws (segs (⟨#[97, 32, 98]⟩ : ByteArray).data.toList) none = [[97], [98]] := by decide +kernel
end Go.Proofs.YtdomnccokhhieaaDoor
