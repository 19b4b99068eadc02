/- The lexer in memory, and its small methods. -/
import Derived.Test.YtackciefmdiphaaGreatDoorLexLaw
import Derived.Deep.QuietTactic
import Derived.Deep.RegionLaw
import Derived.Deep.AppendLies
import Derived.Maps.AppendAt
import Derived.BigQuiet
import Derived.OneCell
set_option linter.unusedVariables false
namespace Go.Proofs.YtackciefmdiphaaGreatDoor
open Go.RowKit Plain

/-- an item's three cells -/
def itemC (x : LI) : List Value := [.int .i64 (x.kind : Int), .int .i64 (x.pos : Int), .string x.text]
def itemsC (l : List LI) : List Value := (l.map itemC).flatten
theorem itemsC_snoc (l : List LI) (x : LI) : itemsC (l ++ [x]) = itemsC l ++ itemC x := by simp [itemsC]
/-- the lexer at 'lb' -/
structure LX (B lb : Nat) (s : ByteArray) (pos start width : Nat) (rs : List Nat) (its : List LI) (w : World) : Prop where
  blk : ∃ st lp rv iv, w.heap[lb]? = some (.cells #[.string s, st, .int .i64 (pos : Int), .int .i64 (start : Int), .int .i64 (width : Int), .int .i64 lp, rv, iv] 116 (0, 0)) ∧ w.ownsRow B 21 1 rv rs.length (rs.map rcell) ∧ w.ownsRow B 121 3 iv its.length (itemsC its) ∧ (∃ g cap, rv = .slice (some ⟨g, 0, none⟩) rs.length cap)
  lo : B ≤ lb
theorem row_ne {w : World} {base sz : Nat} {e : TypeId} {v : Value} {n : Nat} {xs : List Value} (h : w.ownsRow base e sz v n xs) {k : Nat} {c : Array Value} {t : TypeId} {x : Nat × Nat} (g : w.heap[k]? = some (.cells c t x)) (ht : e ≠ t) : v.ownBlock ≠ some k := by
  intro hv
  rcases h.2 with ⟨h0, _⟩ | ⟨g', cap, cur, h0, _, h2, _⟩
  · rw [h0] at hv; cases hv
  · rw [h0] at hv
    obtain rfl : g' = k := Option.some.inj hv
    rw [h2] at g
    injection g with g
    injection g with _ g2
    exact ht g2
theorem row_keep {w w' : World} {base sz : Nat} {e : TypeId} {v : Value} {n : Nat} {xs : List Value} (h : w.ownsRow base e sz v n xs) (k : ∀ g, v.ownBlock = some g → w'.heap[g]? = w.heap[g]?) : w'.ownsRow base e sz v n xs := by
  refine ⟨h.1, ?_⟩
  rcases h.2 with hn | ⟨g, cap, cur, hv, h1, h2, h3⟩
  · exact .inl hn
  · exact .inr ⟨g, cap, cur, hv, h1, (k g (by rw [hv]; rfl)).trans h2, h3⟩
theorem row_lt {w : World} {base sz : Nat} {e : TypeId} {v : Value} {n : Nat} {xs : List Value} (h : w.ownsRow base e sz v n xs) {g : Nat} (hg : v.ownBlock = some g) : base ≤ g ∧ g < w.heap.size := by
  rcases h.2 with ⟨hv, _⟩ | ⟨g', cap, cur, hv, h1, h2, h3⟩
  · rw [hv] at hg; cases hg
  · rw [hv] at hg
    obtain rfl : g' = g := Option.some.inj hg
    exact ⟨h1, (Array.getElem?_eq_some_iff.1 h2).1⟩
theorem lx_lt {w : World} {k : Nat} {c : Array Value} {t : TypeId} {x : Nat × Nat} (h : w.heap[k]? = some (.cells c t x)) : k < w.heap.size := (Array.getElem?_eq_some_iff.1 h).1
theorem LX.lt {B lb pos start width : Nat} {s : ByteArray} {rs : List Nat} {its : List LI} {w : World} (h : LX B lb s pos start width rs its w) : lb < w.heap.size := by
  obtain ⟨⟨st, lp, rv, iv, h1, _⟩, _⟩ := h
  exact lx_lt h1
theorem LX.below {B lb pos start width : Nat} {s : ByteArray} {rs : List Nat} {its : List LI} {w w' : World} (h : LX B lb s pos start width rs its w) (hb : Below w.heap.size w w') : LX B lb s pos start width rs its w' := by
  obtain ⟨⟨st, lp, rv, iv, h1, h2, h3, h4⟩, h5⟩ := h
  exact ⟨⟨st, lp, rv, iv, (hb.block _ (lx_lt h1)).trans h1, row_keep h2 (fun g hg => hb.block g (row_lt h2 hg).2), row_keep h3 (fun g hg => hb.block g (row_lt h3 hg).2), h4⟩, h5⟩
theorem lx_set {w : World} {k : Nat} {cs : Array Value} {t : TypeId} (h : w.heap[k]? = some (.cells cs t (0, 0))) (i : Nat) (u : Value) : (w.setCell ⟨k, i, none⟩ u).heap[k]? = some (.cells (cs.setIfInBounds i u) t (0, 0)) := by
  simp only [World.setCell, Array.getElem?_modify, if_true, h, Option.map_some]
  rfl
theorem lx_cells {w : World} {k : Nat} {a b c d e f g h : Value} {t : TypeId} (hb : w.heap[k]? = some (.cells #[a, b, c, d, e, f, g, h] t (0, 0))) :
    w.cell? ⟨k, 0, none⟩ = some a ∧ w.cell? ⟨k, 2, none⟩ = some c ∧ w.cell? ⟨k, 3, none⟩ = some d ∧ w.cell? ⟨k, 4, none⟩ = some e ∧ w.cell? ⟨k, 6, none⟩ = some g ∧ w.cell? ⟨k, 7, none⟩ = some h ∧ w.frozen? ⟨k, 1, none⟩ = false ∧ w.frozen? ⟨k, 2, none⟩ = false ∧ w.frozen? ⟨k, 3, none⟩ = false ∧ w.frozen? ⟨k, 4, none⟩ = false ∧ w.frozen? ⟨k, 6, none⟩ = false ∧ w.frozen? ⟨k, 7, none⟩ = false := by
  simp [World.cell?, World.frozen?, hb]
theorem bel_drewN (B : Nat) (w : World) (n : Nat) : Below B w (w.drewN n) := ⟨rfl, rfl, rfl, Nat.le_refl _, fun _ _ => rfl⟩
/-- a row beside a struct whose field is written -/
theorem row_set {w : World} {base sz k i : Nat} {e t : TypeId} {v u : Value} {n : Nat} {xs : List Value} {cs : Array Value} (h : w.ownsRow base e sz v n xs) (hb : w.heap[k]? = some (.cells cs t (0, 0))) (ht : e ≠ t) : (w.setCell ⟨k, i, none⟩ u).ownsRow base e sz v n xs :=
  row_keep h (fun g hg => Below.heap_setCell _ _ _ _ (fun e => row_ne h hb ht (by rw [hg]; exact congrArg some (by first | exact e | exact e.symm))))
/-- the world below B is as it was, and the decoder's tables lie there -/
def TabsL (B : Nat) (w : World) : Prop := ∀ w', Below B w w' → Tabs w'
theorem TabsL.below {B : Nat} {w w' : World} (h : TabsL B w) (hb : Below B w w') : TabsL B w' := fun _ k => h _ (hb.trans k)
theorem TabsL.tabs {B : Nat} {w : World} (h : TabsL B w) : Tabs w := h w (Below.refl _ _)
theorem tabsL_of {w0 w : World} (h : Tabs w0) (hb : Below w0.heap.size w0 w) : TabsL w0.heap.size w := fun _ k => h.below (hb.trans k)
theorem decGo_at (s : ByteArray) (p : Nat) (h : p < s.size) : Lib.decodeGo (s.extract p s.size) = (rAt s p, kAt s p) := by
  have ht := rest_of s p
  unfold Lib.decodeGo
  rw [if_neg (by rw [ht.2]; omega), ← Lib.decodeL_drop, List.drop_zero, ht.1, Lib.decodeL_drop]
  rfl
structure BW (w9 : World) where
  val : World
  prop : Below w9.heap.size w9 val
theorem wp_region_quiet_c {P : Program} {C : World → Prop} {id : Nat} {Q : Exit → Act → World → Prop} {a : Act} {w : World} {l : List Oper} (hm : P.follows .mixedOrders = true) (hB : Region.lexB .any l.toArray = true) (hC : C { w with drawn := w.drawn + 1 })
    (h : wpQuiet P l.toArray C (fun a' => ∀ w', C w' → Q .normal a' w') l a) : (Code.region id l.toArray true).wp P Q a w :=
  wp_region_quiet hm hB hC (by simpa using h)
def NextPost (B lb : Nat) (s : ByteArray) (start : Nat) (rs : List Nat) (its : List LI) (r : Int) (pos width : Nat) (w : World) (e : Ending) (w' : World) : Prop := e = .returned (.int .i32 r) ∧ LX B lb s pos start width rs its w' ∧ Below B w w'
/-- all blocks but lb are kept -/
def KeepB (lb : Nat) (w w' : World) : Prop := w.heap.size ≤ w'.heap.size ∧ ∀ j, j < w.heap.size → j ≠ lb → w'.heap[j]? = w.heap[j]?
theorem KeepB.of {lb : Nat} {w w' : World} (h : Below w.heap.size w w') : KeepB lb w w' := ⟨h.size, fun j hj _ => h.block j hj⟩
theorem KeepB.set {lb : Nat} {w w' : World} (h : KeepB lb w w') (i : Nat) (v : Value) : KeepB lb w (w'.setCell ⟨lb, i, none⟩ v) := ⟨by simpa [World.setCell] using h.1, fun j hj hn => (Below.heap_setCell _ _ _ _ hn).trans (h.2 j hj hn)⟩
theorem KeepB.trans {lb : Nat} {w w1 w2 : World} (h : KeepB lb w w1) (k : KeepB lb w1 w2) : KeepB lb w w2 := ⟨Nat.le_trans h.1 k.1, fun j hj hn => (k.2 j (Nat.lt_of_lt_of_le hj h.1) hn).trans (h.2 j hj hn)⟩
/-- the lexer's eight cells -/
def lxC (s : ByteArray) (st : Value) (pos start width : Nat) (lp : Int) (rv iv : Value) : Obj := .cells #[.string s, st, .int .i64 (pos : Int), .int .i64 (start : Int), .int .i64 (width : Int), .int .i64 lp, rv, iv] 116 (0, 0)
def NextPostK (B lb : Nat) (s : ByteArray) (start : Nat) (rs : List Nat) (its : List LI) (r : Int) (pos width : Nat) (w : World) (e : Ending) (w' : World) : Prop := NextPost B lb s start rs its r pos width w e w' ∧ KeepB lb w w' ∧ ∃ st p0 w0 lp rv iv, w.heap[lb]? = some (lxC s st p0 start w0 lp rv iv) ∧ w'.heap[lb]? = some (lxC s st pos start width lp rv iv)
set_option maxHeartbeats 4000000 in
set_option maxRecDepth 100000 in
theorem next_endK (B lb pos start width : Nat) (s : ByteArray) (rs : List Nat) (its : List LI) (w : World) (h : LX B lb s pos start width rs its w) (hB : B ≤ w.heap.size) (hs : s.size ≤ 2147483647) (hp : ¬ pos < s.size) (hp2 : pos ≤ s.size) :
    Calls Tryz.prog 114 #[.pointer (some ⟨lb, 0, none⟩)] w (NextPostK B lb s start rs its (-1) pos 0 w) := by
  unfold NextPostK NextPost
  have hz : (s.size : Int) ≤ (pos : Int) := by omega
  obtain ⟨⟨st, lp, rv, iv, h1, h2, h3, h4⟩, h5⟩ := h
  obtain ⟨c0, c2, c3, c4, c6, c7, f1, f2, f3, f4, f6, f7⟩ := lx_cells h1
  have H1 := Lib.hid h1
  have H2 := Lib.hid h2
  have H3 := Lib.hid h3
  have H4 := Lib.hid h4
  clear h1 h2 h3 h4
  go_enter Tryz.func114, Tryz.ntmps114
  go_wp2
  go_quiet (fail)
  go_wp2
  go_ret
  have hd1 : (w.drewN nq).heap[lb]? = _ := H1.out
  refine ⟨⟨rfl, ⟨⟨st, lp, rv, iv, (lx_set hd1 4 _).trans rfl, row_set (w := w.drewN nq) H2.out hd1 (by decide), row_set (w := w.drewN nq) H3.out hd1 (by decide), H4.out⟩, h5⟩, (bel_drewN B w nq).setCell h5 _⟩, (KeepB.of (bel_drewN _ w nq)).set _ _, st, pos, width, lp, rv, iv, H1.out, (lx_set hd1 4 _).trans rfl⟩
theorem next_end (B lb pos start width : Nat) (s : ByteArray) (rs : List Nat) (its : List LI) (w : World) (h : LX B lb s pos start width rs its w) (hB : B ≤ w.heap.size) (hs : s.size ≤ 2147483647) (hp : ¬ pos < s.size) (hp2 : pos ≤ s.size) :
    Calls Tryz.prog 114 #[.pointer (some ⟨lb, 0, none⟩)] w (NextPost B lb s start rs its (-1) pos 0 w) :=
  (next_endK B lb pos start width s rs its w h hB hs hp hp2).mono fun e w' h => h.1

set_option maxHeartbeats 4000000 in
set_option maxRecDepth 100000 in
theorem next_atK (B lb pos start width : Nat) (s : ByteArray) (rs : List Nat) (its : List LI) (w : World) (h : LX B lb s pos start width rs its w) (hB : B ≤ w.heap.size) (hs : s.size ≤ 2147483647) (hp : pos < s.size) (hT : TabsL B w) (R K : Nat) (hR : rAt s pos = R) (hK : kAt s pos = K) :
    Calls Tryz.prog 114 #[.pointer (some ⟨lb, 0, none⟩)] w (NextPostK B lb s start rs its (R : Int) (pos + K) K w) := by
  unfold NextPostK NextPost
  have hz : ¬ (s.size : Int) ≤ (pos : Int) := by omega
  have hzl : (pos : Int) ≤ (s.size : Int) := by omega
  have hlt := h.lt
  have HL := Lib.hid h
  obtain ⟨⟨st, lp, rv, iv, h1, h2, h3, h4⟩, h5⟩ := h
  obtain ⟨c0, c2, c3, c4, c6, c7, f1, f2, f3, f4, f6, f7⟩ := lx_cells h1
  have H1 := Lib.hid h1
  have H2 := Lib.hid h2
  have H3 := Lib.hid h3
  have H4 := Lib.hid h4
  have HT := Lib.hid hT
  obtain ⟨t, ht⟩ : ∃ t, s.extract pos s.size = t := ⟨_, rfl⟩
  have hD : Hid (Lib.decodeGo t = (R, K)) := Lib.hid (by rw [← ht, decGo_at s pos hp, hR, hK])
  have hk := kAt_pos s pos hp
  rw [hK] at hk
  have hkz : (pos : Int) + (K : Int) ≤ 2147483647 := by omega
  clear h1 h2 h3 h4 hT hR hK
  go_enter Tryz.func114, Tryz.ntmps114
  go_wp2
  go_quiet (fail)
  go_upto_region 4 with fail
  have hN : Nonempty (BW w) := ⟨⟨w, Below.refl _ _⟩⟩
  have d0 : ∀ y : BW w, y.val.cell? ⟨lb, 0, none⟩ = some (.string s) := fun y => (y.prop.cell hlt).trans c0
  have d2 : ∀ y : BW w, y.val.cell? ⟨lb, 2, none⟩ = some (.int .i64 (pos : Int)) := fun y => (y.prop.cell hlt).trans c2
  have HQ : Hid (∀ y : BW w, Calls Tryz.prog 102 #[.string t] y.val fun e w' => e = .returned (.tuple #[.int .i32 R, .int .i64 K]) ∧ ∃ z : BW w, w' = z.val) := Lib.hid (fun y => by
    have := Tryz.utf8_DecodeRuneInString t y.val (HT.out y.val (y.prop.mono hB))
    rw [hD.out] at this
    exact this.mono fun e w' h => ⟨h.1, ⟨w', bthen y.prop h.2⟩, rfl⟩)
  refine wp_region_quiet_c (C := fun w' => ∃ y : BW w, w' = y.val) (by kernel_rfl) (by kernel_rfl) ⟨⟨_, bel_drewN _ w (nq + 1)⟩, rfl⟩ ?_
  repeat (go_big_quiet_step (first | exact HQ.out _))
  refine wpQuiet_nil ?_
  rintro V ⟨⟨V9, hV⟩, rfl⟩
  have h1 : V.heap[lb]? = _ := (hV.block lb hlt).trans H1.out
  have h2 := row_keep H2.out (fun g hg => hV.block g (row_lt H2.out hg).2)
  have h3 := row_keep H3.out (fun g hg => hV.block g (row_lt H3.out hg).2)
  have h4 := H4.out
  have HBV : Hid (Below B w V) := Lib.hid (hV.mono hB)
  have HKX : Hid (KeepB lb w (V.setCell ⟨lb, 4, none⟩ (.int .i64 (K : Int)))) := Lib.hid ((KeepB.of hV).set _ _)
  clear hV d0 d2 hN HQ c0 c2 c3 c4 c6 c7 f1 f2 f3 f4 f6 f7 H2 H3 H4 HL
  have g1 := lx_set h1 4 (.int .i64 (K : Int))
  have g2 := row_set (i := 4) (u := .int .i64 (K : Int)) h2 h1 (by decide)
  have g3 := row_set (i := 4) (u := .int .i64 (K : Int)) h3 h1 (by decide)
  have HBX : Hid (Below B w (V.setCell ⟨lb, 4, none⟩ (.int .i64 (K : Int)))) := Lib.hid (HBV.out.setCell h5 _)
  obtain ⟨c0, c2, c3, c4, c6, c7, f1, f2, f3, f4, f6, f7⟩ := lx_cells h1
  obtain ⟨X, hX⟩ : ∃ X, V.setCell ⟨lb, 4, none⟩ (.int .i64 (K : Int)) = X := ⟨_, rfl⟩
  rw [hX] at g1 g2 g3 HBX HKX
  have g1' : X.heap[lb]? = some (.cells #[.string s, st, .int .i64 (pos : Int), .int .i64 (start : Int), .int .i64 (K : Int), .int .i64 lp, rv, iv] 116 (0, 0)) := g1
  have G1 := Lib.hid g1'
  have G2 := Lib.hid g2
  have G3 := Lib.hid g3
  have H4 := Lib.hid h4
  clear h1 h2 h3 h4 g1 g2 g3
  go_upto_region 6 with fail
  (try rw [hX])
  clear c0 c2 c3 c4 c6 c7 f1 f2 f3 f4 f6 f7 hX
  obtain ⟨c0, c2, c3, c4, c6, c7, f1, f2, f3, f4, f6, f7⟩ := lx_cells g1'
  clear g1'
  go_region
  go_wp2
  go_ret
  refine ⟨⟨rfl, ?_, (HBX.out.setCell h5 _).drew⟩, ⟨(HKX.out.set 2 (.int .i64 ((pos + K : Nat) : Int))).1, (HKX.out.set 2 (.int .i64 ((pos + K : Nat) : Int))).2⟩, st, pos, width, lp, rv, iv, H1.out, (lx_set G1.out 2 (.int .i64 ((pos + K : Nat) : Int))).trans rfl⟩
  exact LX.below (w := X.setCell ⟨lb, 2, none⟩ (.int .i64 ((pos + K : Nat) : Int))) ⟨⟨st, lp, rv, iv, (lx_set G1.out 2 _).trans rfl, row_set G2.out G1.out (by decide), row_set G3.out G1.out (by decide), H4.out⟩, h5⟩ (Below.refl _ _).drew
theorem next_at (B lb pos start width : Nat) (s : ByteArray) (rs : List Nat) (its : List LI) (w : World) (h : LX B lb s pos start width rs its w) (hB : B ≤ w.heap.size) (hs : s.size ≤ 2147483647) (hp : pos < s.size) (hT : TabsL B w) (R K : Nat) (hR : rAt s pos = R) (hK : kAt s pos = K) :
    Calls Tryz.prog 114 #[.pointer (some ⟨lb, 0, none⟩)] w (NextPost B lb s start rs its (R : Int) (pos + K) K w) :=
  (next_atK B lb pos start width s rs its w h hB hs hp hT R K hR hK).mono fun e w' h => h.1
def LPost (B lb : Nat) (s : ByteArray) (pos start width : Nat) (rs : List Nat) (its : List LI) (w : World) (e : Ending) (w' : World) : Prop := e = .returned (.tuple #[]) ∧ LX B lb s pos start width rs its w' ∧ Below B w w'
set_option maxHeartbeats 4000000 in
set_option maxRecDepth 100000 in
theorem backup_any (B lb p K start : Nat) (s : ByteArray) (rs : List Nat) (its : List LI) (w : World) (h : LX B lb s (p + K) start K rs its w) (hs : p + K ≤ 2147483647) :
    Calls Tryz.prog 122 #[.pointer (some ⟨lb, 0, none⟩)] w (LPost B lb s p start K rs its w) := by
  unfold LPost
  obtain ⟨⟨st, lp, rv, iv, h1, h2, h3, h4⟩, h5⟩ := h
  obtain ⟨c0, c2, c3, c4, c6, c7, f1, f2, f3, f4, f6, f7⟩ := lx_cells h1
  have H1 := Lib.hid h1
  have H2 := Lib.hid h2
  have H3 := Lib.hid h3
  have H4 := Lib.hid h4
  clear h1 h2 h3 h4
  go_enter Tryz.func122, Tryz.ntmps122
  go_wp2
  go_region
  go_end0
  refine ⟨rfl, ?_, ((Below.refl B w).setCell (p := ⟨lb, 2, none⟩) h5 _).drew⟩
  exact LX.below (w := w.setCell ⟨lb, 2, none⟩ (.int .i64 (p : Int))) ⟨⟨st, lp, rv, iv, (lx_set H1.out 2 _).trans rfl, row_set H2.out H1.out (by decide), row_set H3.out H1.out (by decide), H4.out⟩, h5⟩ (Below.refl _ _).drew
set_option maxHeartbeats 4000000 in
set_option maxRecDepth 100000 in
theorem ignore_any (B lb pos start width : Nat) (s : ByteArray) (rs : List Nat) (its : List LI) (w : World) (h : LX B lb s pos start width rs its w) :
    Calls Tryz.prog 118 #[.pointer (some ⟨lb, 0, none⟩)] w (LPost B lb s pos pos width rs its w) := by
  unfold LPost
  obtain ⟨⟨st, lp, rv, iv, h1, h2, h3, h4⟩, h5⟩ := h
  obtain ⟨c0, c2, c3, c4, c6, c7, f1, f2, f3, f4, f6, f7⟩ := lx_cells h1
  have H1 := Lib.hid h1
  have H2 := Lib.hid h2
  have H3 := Lib.hid h3
  have H4 := Lib.hid h4
  clear h1 h2 h3 h4
  go_enter Tryz.func118, Tryz.ntmps118
  go_wp2
  go_end0
  exact ⟨rfl, ⟨⟨st, lp, rv, iv, (lx_set H1.out 3 _).trans rfl, row_set H2.out H1.out (by decide), row_set H3.out H1.out (by decide), H4.out⟩, h5⟩, (Below.refl B w).setCell (p := ⟨lb, 3, none⟩) h5 _⟩
theorem infoRune : (Tryz.prog.info? 21).map (fun i => (i.zero, i.size, i.bytes)) = some (some (.int .i32 0), 1, 4) := by kernel_rfl
theorem row_two {w w1 : World} {B sz1 sz2 : Nat} {e1 e2 : TypeId} {v1 v2 : Value} {n1 n2 : Nat} {x1 x2 : List Value} (h1 : w.ownsRow B e1 sz1 v1 n1 x1) (h2 : w.ownsRow B e2 sz2 v2 n2 x2) (ht : e1 ≠ e2) (hg : w.grownBy w1 v1.ownBlock) : w1.ownsRow B e2 sz2 v2 n2 x2 :=
  row_keep h2 (fun g hg2 => hg.block g (row_lt h2 hg2).2 (fun e => by
    rcases h2.2 with ⟨h0, _⟩ | ⟨g', cap, cur, h0, _, h3, _⟩
    · rw [h0] at hg2; cases hg2
    · rw [h0] at hg2
      obtain rfl : g' = g := Option.some.inj hg2
      exact row_ne h1 h3 ht e.symm))
set_option maxHeartbeats 4000000 in
set_option maxRecDepth 100000 in
theorem append_any (B lb pos start width R : Nat) (s : ByteArray) (rs : List Nat) (its : List LI) (w : World) (h : LX B lb s pos start width rs its w) (hB : B ≤ w.heap.size) (hn : rs.length ≤ 2147483647) :
    Calls Tryz.prog 131 #[.pointer (some ⟨lb, 0, none⟩), .int .i32 (R : Int)] w (LPost B lb s pos start width (rs ++ [R]) its w) := by
  unfold LPost
  have hlt := h.lt
  obtain ⟨i0, hi, hz0, hz1, hz2⟩ := info_parts infoRune
  obtain ⟨⟨st, lp, rv, iv, h1, h2, h3, h4⟩, h5⟩ := h
  obtain ⟨c0, c2, c3, c4, c6, c7, f1, f2, f3, f4, f6, f7⟩ := lx_cells h1
  have hne := row_ne h2 h1 (by decide)
  have HNE := Lib.hid hne
  have H1 := Lib.hid h1
  have H2 := Lib.hid h2
  have H3 := Lib.hid h3
  clear h1 h2 h3 h4 hne
  go_enter Tryz.func131, Tryz.ntmps131
  go_wp2_with (at_builtin; refine wpList_append_own_at _ rfl _ _ 113 rfl B 21 i0 (.int .i32 0) 1 4 Tryz.underlying113 hi hz0 hz1 hz2 rfl (by decide) rv rs.length (rs.map rcell) rfl (H2.out.alloc _) ⟨w.heap.size, 0, none⟩ 1 1 [rcell R] rfl rfl (cell_one_new _ _ _) (by intro u hu; simp at hu; subst hu; rfl) (by unfold maxLen; omega) (by omega) (by simp; omega) ?_)
  intro v' w2 hown2 hgr _ _
  obtain ⟨g9, cap9, rfl⟩ : ∃ g9 cap9, v' = .slice (some ⟨g9, 0, none⟩) (rs.length + 1) cap9 := by
    rcases hown2.2 with ⟨_, h0⟩ | ⟨g9, cap9, cur, hv, _⟩
    · omega
    · exact ⟨g9, cap9, hv⟩
  have hb2 : w2.heap[lb]? = _ := ((hgr.block lb (by simp; omega) (fun e => HNE.out e.symm)).trans (Below.heap_alloc w _ _ hlt)).trans H1.out
  obtain ⟨d0, d2, d3, d4, d6, d7, g1, g2, g3, g4, g6, g7⟩ := lx_cells hb2
  have HBK2 := Lib.hid hb2
  have HR2 := Lib.hid hown2
  have HI2 : Hid (w2.ownsRow B 121 3 iv its.length (itemsC its)) := Lib.hid (row_two (H2.out.alloc _) (row_keep H3.out (fun g hg => Below.heap_alloc w _ g (row_lt H3.out hg).2)) (by decide) hgr)
  have HB2 := Lib.hid (((Below.refl B w).alloc hB _).grown hgr (by simp; omega) (fun g hg => (row_lt H2.out hg).1))
  clear hb2 hown2 hgr c0 c2 c3 c4 c6 c7 f1 f2 f3 f4 f6 f7
  go_wp2
  go_end0
  refine ⟨rfl, ⟨⟨st, lp, _, iv, (lx_set HBK2.out 6 _).trans rfl, ?_, row_set HI2.out HBK2.out (by decide), ⟨g9, cap9, by simp⟩⟩, h5⟩, HB2.out.setCell (p := ⟨lb, 6, none⟩) h5 _⟩
  have := row_set (k := lb) (i := 6) (u := .slice (some ⟨g9, 0, none⟩) (rs.length + 1) cap9) HR2.out HBK2.out (by decide)
  simpa using this
end Go.Proofs.YtackciefmdiphaaGreatDoor
