/- The walk of impl.TranslateAll. -/
import Derived.Test.YtdgaehkfdaacjaaDoorRowA
import Derived.Test.YtdgaehkfdaacjaaDoorTrImpl
import Derived.Deep.LoopGhost
set_option linter.unusedVariables false
namespace Go.Proofs.YtdgaehkfdaacjaaDoor
open Go.RowKit Plain

theorem infoStr : (Tryd.prog.info? 9).map (fun i => (i.zero, i.size, i.bytes)) = some (some (.string ⟨#[]⟩), 1, 16) := by kernel_rfl
theorem row_shapeA {b0 e sz : Nat} {lv : Value} {n : Nat} {xs : List Value} {w : World} (h : w.ownsRow b0 e sz lv n xs) : ∃ A cap, lv = .slice A n cap := by
  rcases h.2 with ⟨hv, h0⟩ | ⟨g, cap, cur, hv, _⟩
  · exact ⟨none, 0, by rw [hv, h0]⟩
  · exact ⟨_, _, hv⟩
theorem row_less {b b1 e sz : Nat} {lv : Value} {n : Nat} {xs : List Value} {w : World} (h : w.ownsRow b e sz lv n xs) (hb : b1 ≤ b) : w.ownsRow b1 e sz lv n xs := by
  refine ⟨h.1, ?_⟩
  rcases h.2 with hn | ⟨g, cap, cur, hv, h1, h2⟩
  · exact .inl hn
  · exact .inr ⟨g, cap, cur, hv, Nat.le_trans hb h1, h2⟩
def AllPost (f t : ByteArray) (l : List ByteArray) (w : World) (e : Ending) (w' : World) : Prop :=
  ∃ v, e = .returned v ∧ w'.ownsRow w.heap.size 9 1 v l.length (l.map fun x => Value.string (trS f t x)) ∧ Below w.heap.size w w'
set_option maxHeartbeats 4000000 in
set_option maxRecDepth 100000 in
theorem trAll_any (f t : ByteArray) (A : Option Addr) (n cap : Nat) (l : List ByteArray) (hn : l.length = n) (w : World) (hr : RowA A l w) (hc : n ≤ 100000) (hl : ∀ x ∈ l, x.size ≤ 2147483647) (hf : f.size ≤ 2000) (ht : t.size ≤ 2147483647) (hT : Tabs w) :
    Calls Tryd.prog 23 #[.string f, .string t, .slice A n cap] w (AllPost f t l w) := by
  unfold AllPost
  obtain ⟨i0, hi, hz0, hz1, hz2⟩ := info_parts infoStr
  obtain ⟨G, hG⟩ : ∃ G, (l.map fun x => Value.string (trS f t x)) = G := ⟨_, rfl⟩
  rw [hG]
  have HG := Lib.hid hG
  clear hG
  have HNw := Lib.hid (new_c f t w hT hf ht)
  have HN := Lib.hid hn
  have HR := Lib.hid hr
  have HL := Lib.hid hl
  rw [hn]
  clear hn hr hl hf ht
  go_enter Tryd.func23, Tryd.ntmps23
  go_wp2_with (go_at_call 27; with_reducible refine HNw.out.mono ?_)
  rintro e w1 ⟨pb, rfl, hp, hb1⟩
  have HP := Lib.hid hp
  have HT1 := Lib.hid (hT.below hb1)
  have HB1 := Lib.hid hb1
  have HR1 := Lib.hid (HR.out.below hb1)
  clear hp hb1 hT
  dsimp only
  go_wp2_with fail
  go_loopg [8, 16] n (fun gh ov iv wr => ∃ k : Nat, iv = .int .i64 k ∧ k ≤ n ∧ gh = n - k ∧ wr.ownsRow w1.heap.size 9 1 ov k (G.take k) ∧ Hid (Below w1.heap.size w1 wr))
  case atStart => exact ⟨0, rfl, by omega, by omega, World.ownsRow_nil _ _ _ _, Lib.hid (Below.refl _ _)⟩
  case round =>
    obtain ⟨k, rfl, hk, rfl, how, HBR⟩ := hrel
    obtain ⟨A2, kc2, rfl⟩ := row_shapeA how
    have HOW := Lib.hid how
    clear how
    by_cases hlt : k < n
    · have hltz : (k : Int) < (n : Int) := by omega
      obtain ⟨x, hx⟩ : ∃ x, l[k]? = some x := ⟨_, List.getElem?_eq_getElem (by rw [HN.out]; exact hlt)⟩
      obtain ⟨ad, rfl, hcell⟩ := (HR1.out.below HBR.out) k x hx
      have HX := Lib.hid (HL.out x (List.mem_of_getElem? hx))
      have HSN : Hid (G.take (k + 1) = G.take k ++ [Value.string (trS f t x)]) := Lib.hid (by rw [List.take_add_one, ← HG.out, List.getElem?_map, hx]; rfl)
      have HTr := Lib.hid (translate_c (HP.out.below HBR.out) x HX.out (HT1.out.below HBR.out))
      clear hx
      generalize trS f t x = Y at HSN HTr
      go_wp2_with (go_at_call 37; with_reducible refine HTr.out.mono ?_)
      rintro e V2 ⟨rfl, hbv⟩
      dsimp only
      have HROW : Hid (V2.ownsRow w1.heap.size 9 1 (.slice A2 k kc2) k (G.take k)) := Lib.hid (row_keep HOW.out fun g hg => by
        refine hbv.block g ?_
        obtain ⟨_, cs, hcs⟩ := row_is HOW.out hg
        exact (Array.getElem?_eq_some_iff.1 hcs).1)
      have HB9 := Lib.hid (bthen HBR.out hbv)
      have hVs2 : w1.heap.size ≤ V2.heap.size := HB9.out.size
      clear hbv
      go_wp2_with (at_builtin; refine wpList_append_own_at _ rfl _ _ 35 rfl w1.heap.size 9 i0 (.string ⟨#[]⟩) 1 16 Tryd.underlying35 hi hz0 hz1 hz2 rfl (by decide) (.slice A2 k kc2) k (G.take k) rfl (HROW.out.alloc _) ⟨V2.heap.size, 0, none⟩ 1 1 [.string Y] rfl rfl (cell_one_new _ _ _) (by intro u hu; simp at hu; subst hu; rfl) (by unfold maxLen; omega) (by omega) (by simp; omega) ?_)
      intro v' w2 hown2 hgr _ _
      obtain ⟨A3, kc3, rfl⟩ := row_shapeA hown2
      have HROW2 : Hid (w2.ownsRow w1.heap.size 9 1 (.slice A3 (k + 1) kc3) (k + 1) (G.take (k + 1))) := Lib.hid (by rw [HSN.out]; exact hown2)
      have HB10 := Lib.hid ((HB9.out.alloc (by omega) _).grown hgr (by simp; omega) (fun k hk => by have := (row_is HROW.out hk).1; omega))
      clear hgr hown2
      go_wp2
      go_roundg (n - (k + 1))
      case measure => omega
      case rel => exact ⟨k + 1, by go_num, by omega, rfl, HROW2.out, HB10⟩
    · have hltz : ¬ (k : Int) < (n : Int) := by omega
      obtain rfl : k = n := by omega
      have HF : Hid (wr.ownsRow w.heap.size 9 1 (.slice A2 k kc2) k G) := Lib.hid (by
        have h1 := HOW.out
        rw [List.take_of_length_le (by rw [← HG.out, List.length_map, HN.out]; exact Nat.le_refl _)] at h1
        exact row_less h1 HB1.out.size)
      have HBF := Lib.hid (bthen HB1.out HBR.out)
      go_wp2_with fail
      go_ret
      exact ⟨_, rfl, HF.out, HBF.out⟩
end Go.Proofs.YtdgaehkfdaacjaaDoor
