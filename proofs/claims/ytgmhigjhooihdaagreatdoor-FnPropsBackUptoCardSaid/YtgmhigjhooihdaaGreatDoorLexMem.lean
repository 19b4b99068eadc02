/- The lexer in memory, and its small methods. -/
import Derived.Test.YtgmhigjhooihdaaGreatDoorLexLaw
import Derived.Deep.QuietTactic
import Derived.Deep.RegionLaw
import Derived.Deep.AppendLies
import Derived.Maps.AppendAt
import Derived.BigQuiet
import Derived.OneCell
import Derived.BigRegion
import Derived.Test.YtgmhigjhooihdaaGreatDoorDec
import Derived.LoopTactic
import Derived.Lib.QuoteLoop
import Derived.Lib.ConvBytes
import Derived.Deep.OwnRows
import Derived.Handy
import Derived.WalkMore
import Derived.Laws.EntriesVeiled
import Derived.OwnWalk
import Derived.Test.YtgmhigjhooihdaaGreatDoorParLaw
import Derived.Defers
import Derived.Recover
import Derived.Laws.Pointers
import Derived.Stop.Asserts
set_option linter.unusedVariables false
namespace Go.Proofs.YtgmhigjhooihdaaGreatDoor
open Go.RowKit Plain

/-- an item's three cells -/
def itemC (x : LI) : List Value := [.int .i64 (x.kind : Int), .int .i64 (x.pos : Int), .string x.text]
def itemsC (l : List LI) : List Value := (l.map itemC).flatten
theorem itemsC_snoc (l : List LI) (x : LI) : itemsC (l ++ [x]) = itemsC l ++ itemC x := by simp [itemsC]
/-- the lexer at 'lb' -/
structure LX (B lb : Nat) (s : ByteArray) (pos start width : Nat) (rs : List Nat) (its : List LI) (w : World) : Prop where
  blk : ∃ st lp rv iv, w.heap[lb]? = some (.cells #[.string s, st, .int .i64 (pos : Int), .int .i64 (start : Int), .int .i64 (width : Int), .int .i64 lp, rv, iv] 164 (0, 0)) ∧ w.ownsRow B 21 1 rv rs.length (rs.map rcell) ∧ w.ownsRow B 169 3 iv its.length (itemsC its) ∧ (∃ g cap, rv = .slice (some ⟨g, 0, none⟩) rs.length cap)
  lo : B ≤ lb
theorem row_ne {w : World} {base sz : Nat} {e : TypeId} {v : Value} {n : Nat} {xs : List Value} (h : w.ownsRow base e sz v n xs) {k : Nat} {c : Array Value} {t : TypeId} {x : Nat × Nat} (g : w.heap[k]? = some (.cells c t x)) (ht : e ≠ t) : v.ownBlock ≠ some k := by
  intro hv
  rcases h.2 with ⟨h0, _⟩ | ⟨g', cap, cur, h0, _, h2, _⟩
  · rw [h0] at hv; cases hv
  · rw [h0] at hv
    obtain rfl : g' = k := Option.some.inj hv
    rw [h2] at g
    injection g with g
    injection g with _ g2
    exact ht g2
theorem row_keep {w w' : World} {base sz : Nat} {e : TypeId} {v : Value} {n : Nat} {xs : List Value} (h : w.ownsRow base e sz v n xs) (k : ∀ g, v.ownBlock = some g → w'.heap[g]? = w.heap[g]?) : w'.ownsRow base e sz v n xs := by
  refine ⟨h.1, ?_⟩
  rcases h.2 with hn | ⟨g, cap, cur, hv, h1, h2, h3⟩
  · exact .inl hn
  · exact .inr ⟨g, cap, cur, hv, h1, (k g (by rw [hv]; rfl)).trans h2, h3⟩
theorem row_lt {w : World} {base sz : Nat} {e : TypeId} {v : Value} {n : Nat} {xs : List Value} (h : w.ownsRow base e sz v n xs) {g : Nat} (hg : v.ownBlock = some g) : base ≤ g ∧ g < w.heap.size := by
  rcases h.2 with ⟨hv, _⟩ | ⟨g', cap, cur, hv, h1, h2, h3⟩
  · rw [hv] at hg; cases hg
  · rw [hv] at hg
    obtain rfl : g' = g := Option.some.inj hg
    exact ⟨h1, (Array.getElem?_eq_some_iff.1 h2).1⟩
theorem lx_lt {w : World} {k : Nat} {c : Array Value} {t : TypeId} {x : Nat × Nat} (h : w.heap[k]? = some (.cells c t x)) : k < w.heap.size := (Array.getElem?_eq_some_iff.1 h).1
theorem LX.lt {B lb pos start width : Nat} {s : ByteArray} {rs : List Nat} {its : List LI} {w : World} (h : LX B lb s pos start width rs its w) : lb < w.heap.size := by
  obtain ⟨⟨st, lp, rv, iv, h1, _⟩, _⟩ := h
  exact lx_lt h1
theorem LX.below {B lb pos start width : Nat} {s : ByteArray} {rs : List Nat} {its : List LI} {w w' : World} (h : LX B lb s pos start width rs its w) (hb : Below w.heap.size w w') : LX B lb s pos start width rs its w' := by
  obtain ⟨⟨st, lp, rv, iv, h1, h2, h3, h4⟩, h5⟩ := h
  exact ⟨⟨st, lp, rv, iv, (hb.block _ (lx_lt h1)).trans h1, row_keep h2 (fun g hg => hb.block g (row_lt h2 hg).2), row_keep h3 (fun g hg => hb.block g (row_lt h3 hg).2), h4⟩, h5⟩
theorem lx_set {w : World} {k : Nat} {cs : Array Value} {t : TypeId} (h : w.heap[k]? = some (.cells cs t (0, 0))) (i : Nat) (u : Value) : (w.setCell ⟨k, i, none⟩ u).heap[k]? = some (.cells (cs.setIfInBounds i u) t (0, 0)) := by
  simp only [World.setCell, Array.getElem?_modify, if_true, h, Option.map_some]
  rfl
theorem lx_cells {w : World} {k : Nat} {a b c d e f g h : Value} {t : TypeId} (hb : w.heap[k]? = some (.cells #[a, b, c, d, e, f, g, h] t (0, 0))) :
    w.cell? ⟨k, 0, none⟩ = some a ∧ w.cell? ⟨k, 2, none⟩ = some c ∧ w.cell? ⟨k, 3, none⟩ = some d ∧ w.cell? ⟨k, 4, none⟩ = some e ∧ w.cell? ⟨k, 6, none⟩ = some g ∧ w.cell? ⟨k, 7, none⟩ = some h ∧ w.frozen? ⟨k, 1, none⟩ = false ∧ w.frozen? ⟨k, 2, none⟩ = false ∧ w.frozen? ⟨k, 3, none⟩ = false ∧ w.frozen? ⟨k, 4, none⟩ = false ∧ w.frozen? ⟨k, 6, none⟩ = false ∧ w.frozen? ⟨k, 7, none⟩ = false := by
  simp [World.cell?, World.frozen?, hb]
theorem bel_drewN (B : Nat) (w : World) (n : Nat) : Below B w (w.drewN n) := ⟨rfl, rfl, rfl, Nat.le_refl _, fun _ _ => rfl⟩
/-- a row beside a struct whose field is written -/
theorem row_set {w : World} {base sz k i : Nat} {e t : TypeId} {v u : Value} {n : Nat} {xs : List Value} {cs : Array Value} (h : w.ownsRow base e sz v n xs) (hb : w.heap[k]? = some (.cells cs t (0, 0))) (ht : e ≠ t) : (w.setCell ⟨k, i, none⟩ u).ownsRow base e sz v n xs :=
  row_keep h (fun g hg => Below.heap_setCell _ _ _ _ (fun e => row_ne h hb ht (by rw [hg]; exact congrArg some (by first | exact e | exact e.symm))))
/-- the world below B is as it was, and the decoder's tables lie there -/
def TabsL (B : Nat) (w : World) : Prop := ∀ w', Below B w w' → Tabs w'
theorem TabsL.below {B : Nat} {w w' : World} (h : TabsL B w) (hb : Below B w w') : TabsL B w' := fun _ k => h _ (hb.trans k)
theorem TabsL.tabs {B : Nat} {w : World} (h : TabsL B w) : Tabs w := h w (Below.refl _ _)
theorem tabsL_of {w0 w : World} (h : Tabs w0) (hb : Below w0.heap.size w0 w) : TabsL w0.heap.size w := fun _ k => h.below (hb.trans k)
theorem decGo_at (s : ByteArray) (p : Nat) (h : p < s.size) : Lib.decodeGo (s.extract p s.size) = (rAt s p, kAt s p) := by
  have ht := rest_of s p
  unfold Lib.decodeGo
  rw [if_neg (by rw [ht.2]; omega), ← Lib.decodeL_drop, List.drop_zero, ht.1, Lib.decodeL_drop]
  rfl
structure BW (w9 : World) where
  val : World
  prop : Below w9.heap.size w9 val
theorem wp_region_quiet_c {P : Program} {C : World → Prop} {id : Nat} {Q : Exit → Act → World → Prop} {a : Act} {w : World} {l : List Oper} (hm : P.follows .mixedOrders = true) (hB : Region.lexB .any l.toArray = true) (hC : C { w with drawn := w.drawn + 1 })
    (h : wpQuiet P l.toArray C (fun a' => ∀ w', C w' → Q .normal a' w') l a) : (Code.region id l.toArray true).wp P Q a w :=
  wp_region_quiet hm hB hC (by simpa using h)
def NextPost (B lb : Nat) (s : ByteArray) (start : Nat) (rs : List Nat) (its : List LI) (r : Int) (pos width : Nat) (w : World) (e : Ending) (w' : World) : Prop := e = .returned (.int .i32 r) ∧ LX B lb s pos start width rs its w' ∧ Below B w w'
/-- all blocks but lb are kept -/
def KeepB (lb : Nat) (w w' : World) : Prop := w.heap.size ≤ w'.heap.size ∧ ∀ j, j < w.heap.size → j ≠ lb → w'.heap[j]? = w.heap[j]?
theorem KeepB.of {lb : Nat} {w w' : World} (h : Below w.heap.size w w') : KeepB lb w w' := ⟨h.size, fun j hj _ => h.block j hj⟩
theorem KeepB.set {lb : Nat} {w w' : World} (h : KeepB lb w w') (i : Nat) (v : Value) : KeepB lb w (w'.setCell ⟨lb, i, none⟩ v) := ⟨by simpa [World.setCell] using h.1, fun j hj hn => (Below.heap_setCell _ _ _ _ hn).trans (h.2 j hj hn)⟩
theorem KeepB.trans {lb : Nat} {w w1 w2 : World} (h : KeepB lb w w1) (k : KeepB lb w1 w2) : KeepB lb w w2 := ⟨Nat.le_trans h.1 k.1, fun j hj hn => (k.2 j (Nat.lt_of_lt_of_le hj h.1) hn).trans (h.2 j hj hn)⟩
/-- the lexer's eight cells -/
def lxC (s : ByteArray) (st : Value) (pos start width : Nat) (lp : Int) (rv iv : Value) : Obj := .cells #[.string s, st, .int .i64 (pos : Int), .int .i64 (start : Int), .int .i64 (width : Int), .int .i64 lp, rv, iv] 164 (0, 0)
def NextPostK (B lb : Nat) (s : ByteArray) (start : Nat) (rs : List Nat) (its : List LI) (r : Int) (pos width : Nat) (w : World) (e : Ending) (w' : World) : Prop := NextPost B lb s start rs its r pos width w e w' ∧ KeepB lb w w' ∧ ∃ st p0 w0 lp rv iv, w.heap[lb]? = some (lxC s st p0 start w0 lp rv iv) ∧ w'.heap[lb]? = some (lxC s st pos start width lp rv iv)
set_option maxHeartbeats 4000000 in
set_option maxRecDepth 100000 in
theorem next_endK (B lb pos start width : Nat) (s : ByteArray) (rs : List Nat) (its : List LI) (w : World) (h : LX B lb s pos start width rs its w) (hB : B ≤ w.heap.size) (hs : s.size ≤ 2147483647) (hp : ¬ pos < s.size) (hp2 : pos ≤ s.size) :
    Calls Tryz.prog 140 #[.pointer (some ⟨lb, 0, none⟩)] w (NextPostK B lb s start rs its (-1) pos 0 w) := by
  unfold NextPostK NextPost
  have hz : (s.size : Int) ≤ (pos : Int) := by omega
  obtain ⟨⟨st, lp, rv, iv, h1, h2, h3, h4⟩, h5⟩ := h
  obtain ⟨c0, c2, c3, c4, c6, c7, f1, f2, f3, f4, f6, f7⟩ := lx_cells h1
  have H1 := Lib.hid h1
  have H2 := Lib.hid h2
  have H3 := Lib.hid h3
  have H4 := Lib.hid h4
  clear h1 h2 h3 h4
  go_enter Tryz.func140, Tryz.ntmps140
  go_wp2
  go_quiet (fail)
  go_wp2
  go_ret
  have hd1 : (w.drewN nq).heap[lb]? = _ := H1.out
  refine ⟨⟨rfl, ⟨⟨st, lp, rv, iv, (lx_set hd1 4 _).trans rfl, row_set (w := w.drewN nq) H2.out hd1 (by decide), row_set (w := w.drewN nq) H3.out hd1 (by decide), H4.out⟩, h5⟩, (bel_drewN B w nq).setCell h5 _⟩, (KeepB.of (bel_drewN _ w nq)).set _ _, st, pos, width, lp, rv, iv, H1.out, (lx_set hd1 4 _).trans rfl⟩
theorem next_end (B lb pos start width : Nat) (s : ByteArray) (rs : List Nat) (its : List LI) (w : World) (h : LX B lb s pos start width rs its w) (hB : B ≤ w.heap.size) (hs : s.size ≤ 2147483647) (hp : ¬ pos < s.size) (hp2 : pos ≤ s.size) :
    Calls Tryz.prog 140 #[.pointer (some ⟨lb, 0, none⟩)] w (NextPost B lb s start rs its (-1) pos 0 w) :=
  (next_endK B lb pos start width s rs its w h hB hs hp hp2).mono fun e w' h => h.1

set_option maxHeartbeats 4000000 in
set_option maxRecDepth 100000 in
theorem next_atK (B lb pos start width : Nat) (s : ByteArray) (rs : List Nat) (its : List LI) (w : World) (h : LX B lb s pos start width rs its w) (hB : B ≤ w.heap.size) (hs : s.size ≤ 2147483647) (hp : pos < s.size) (hT : TabsL B w) (R K : Nat) (hR : rAt s pos = R) (hK : kAt s pos = K) :
    Calls Tryz.prog 140 #[.pointer (some ⟨lb, 0, none⟩)] w (NextPostK B lb s start rs its (R : Int) (pos + K) K w) := by
  unfold NextPostK NextPost
  have hz : ¬ (s.size : Int) ≤ (pos : Int) := by omega
  have hzl : (pos : Int) ≤ (s.size : Int) := by omega
  have hlt := h.lt
  have HL := Lib.hid h
  obtain ⟨⟨st, lp, rv, iv, h1, h2, h3, h4⟩, h5⟩ := h
  obtain ⟨c0, c2, c3, c4, c6, c7, f1, f2, f3, f4, f6, f7⟩ := lx_cells h1
  have H1 := Lib.hid h1
  have H2 := Lib.hid h2
  have H3 := Lib.hid h3
  have H4 := Lib.hid h4
  have HT := Lib.hid hT
  obtain ⟨t, ht⟩ : ∃ t, s.extract pos s.size = t := ⟨_, rfl⟩
  have hD : Hid (Lib.decodeGo t = (R, K)) := Lib.hid (by rw [← ht, decGo_at s pos hp, hR, hK])
  have hk := kAt_pos s pos hp
  rw [hK] at hk
  have hkz : (pos : Int) + (K : Int) ≤ 2147483647 := by omega
  clear h1 h2 h3 h4 hT hR hK
  go_enter Tryz.func140, Tryz.ntmps140
  go_wp2
  go_quiet (fail)
  go_upto_region 4 with fail
  have hN : Nonempty (BW w) := ⟨⟨w, Below.refl _ _⟩⟩
  have d0 : ∀ y : BW w, y.val.cell? ⟨lb, 0, none⟩ = some (.string s) := fun y => (y.prop.cell hlt).trans c0
  have d2 : ∀ y : BW w, y.val.cell? ⟨lb, 2, none⟩ = some (.int .i64 (pos : Int)) := fun y => (y.prop.cell hlt).trans c2
  have HQ : Hid (∀ y : BW w, Calls Tryz.prog 102 #[.string t] y.val fun e w' => e = .returned (.tuple #[.int .i32 R, .int .i64 K]) ∧ ∃ z : BW w, w' = z.val) := Lib.hid (fun y => by
    have := Tryz.utf8_DecodeRuneInString t y.val (HT.out y.val (y.prop.mono hB))
    rw [hD.out] at this
    exact this.mono fun e w' h => ⟨h.1, ⟨w', bthen y.prop h.2⟩, rfl⟩)
  refine wp_region_quiet_c (C := fun w' => ∃ y : BW w, w' = y.val) (by kernel_rfl) (by kernel_rfl) ⟨⟨_, bel_drewN _ w (nq + 1)⟩, rfl⟩ ?_
  repeat (go_big_quiet_step (first | exact HQ.out _))
  refine wpQuiet_nil ?_
  rintro V ⟨⟨V9, hV⟩, rfl⟩
  have h1 : V.heap[lb]? = _ := (hV.block lb hlt).trans H1.out
  have h2 := row_keep H2.out (fun g hg => hV.block g (row_lt H2.out hg).2)
  have h3 := row_keep H3.out (fun g hg => hV.block g (row_lt H3.out hg).2)
  have h4 := H4.out
  have HBV : Hid (Below B w V) := Lib.hid (hV.mono hB)
  have HKX : Hid (KeepB lb w (V.setCell ⟨lb, 4, none⟩ (.int .i64 (K : Int)))) := Lib.hid ((KeepB.of hV).set _ _)
  clear hV d0 d2 hN HQ c0 c2 c3 c4 c6 c7 f1 f2 f3 f4 f6 f7 H2 H3 H4 HL
  have g1 := lx_set h1 4 (.int .i64 (K : Int))
  have g2 := row_set (i := 4) (u := .int .i64 (K : Int)) h2 h1 (by decide)
  have g3 := row_set (i := 4) (u := .int .i64 (K : Int)) h3 h1 (by decide)
  have HBX : Hid (Below B w (V.setCell ⟨lb, 4, none⟩ (.int .i64 (K : Int)))) := Lib.hid (HBV.out.setCell h5 _)
  obtain ⟨c0, c2, c3, c4, c6, c7, f1, f2, f3, f4, f6, f7⟩ := lx_cells h1
  obtain ⟨X, hX⟩ : ∃ X, V.setCell ⟨lb, 4, none⟩ (.int .i64 (K : Int)) = X := ⟨_, rfl⟩
  rw [hX] at g1 g2 g3 HBX HKX
  have g1' : X.heap[lb]? = some (.cells #[.string s, st, .int .i64 (pos : Int), .int .i64 (start : Int), .int .i64 (K : Int), .int .i64 lp, rv, iv] 164 (0, 0)) := g1
  have G1 := Lib.hid g1'
  have G2 := Lib.hid g2
  have G3 := Lib.hid g3
  have H4 := Lib.hid h4
  clear h1 h2 h3 h4 g1 g2 g3
  go_upto_region 6 with fail
  (try rw [hX])
  clear c0 c2 c3 c4 c6 c7 f1 f2 f3 f4 f6 f7 hX
  obtain ⟨c0, c2, c3, c4, c6, c7, f1, f2, f3, f4, f6, f7⟩ := lx_cells g1'
  clear g1'
  go_region
  go_wp2
  go_ret
  refine ⟨⟨rfl, ?_, (HBX.out.setCell h5 _).drew⟩, ⟨(HKX.out.set 2 (.int .i64 ((pos + K : Nat) : Int))).1, (HKX.out.set 2 (.int .i64 ((pos + K : Nat) : Int))).2⟩, st, pos, width, lp, rv, iv, H1.out, (lx_set G1.out 2 (.int .i64 ((pos + K : Nat) : Int))).trans rfl⟩
  exact LX.below (w := X.setCell ⟨lb, 2, none⟩ (.int .i64 ((pos + K : Nat) : Int))) ⟨⟨st, lp, rv, iv, (lx_set G1.out 2 _).trans rfl, row_set G2.out G1.out (by decide), row_set G3.out G1.out (by decide), H4.out⟩, h5⟩ (Below.refl _ _).drew
theorem next_at (B lb pos start width : Nat) (s : ByteArray) (rs : List Nat) (its : List LI) (w : World) (h : LX B lb s pos start width rs its w) (hB : B ≤ w.heap.size) (hs : s.size ≤ 2147483647) (hp : pos < s.size) (hT : TabsL B w) (R K : Nat) (hR : rAt s pos = R) (hK : kAt s pos = K) :
    Calls Tryz.prog 140 #[.pointer (some ⟨lb, 0, none⟩)] w (NextPost B lb s start rs its (R : Int) (pos + K) K w) :=
  (next_atK B lb pos start width s rs its w h hB hs hp hT R K hR hK).mono fun e w' h => h.1
def LPost (B lb : Nat) (s : ByteArray) (pos start width : Nat) (rs : List Nat) (its : List LI) (w : World) (e : Ending) (w' : World) : Prop := e = .returned (.tuple #[]) ∧ LX B lb s pos start width rs its w' ∧ Below B w w'
set_option maxHeartbeats 4000000 in
set_option maxRecDepth 100000 in
theorem backup_any (B lb p K start : Nat) (s : ByteArray) (rs : List Nat) (its : List LI) (w : World) (h : LX B lb s (p + K) start K rs its w) (hs : p + K ≤ 2147483647) :
    Calls Tryz.prog 148 #[.pointer (some ⟨lb, 0, none⟩)] w (LPost B lb s p start K rs its w) := by
  unfold LPost
  obtain ⟨⟨st, lp, rv, iv, h1, h2, h3, h4⟩, h5⟩ := h
  obtain ⟨c0, c2, c3, c4, c6, c7, f1, f2, f3, f4, f6, f7⟩ := lx_cells h1
  have H1 := Lib.hid h1
  have H2 := Lib.hid h2
  have H3 := Lib.hid h3
  have H4 := Lib.hid h4
  clear h1 h2 h3 h4
  go_enter Tryz.func148, Tryz.ntmps148
  go_wp2
  go_region
  go_end0
  refine ⟨rfl, ?_, ((Below.refl B w).setCell (p := ⟨lb, 2, none⟩) h5 _).drew⟩
  exact LX.below (w := w.setCell ⟨lb, 2, none⟩ (.int .i64 (p : Int))) ⟨⟨st, lp, rv, iv, (lx_set H1.out 2 _).trans rfl, row_set H2.out H1.out (by decide), row_set H3.out H1.out (by decide), H4.out⟩, h5⟩ (Below.refl _ _).drew
set_option maxHeartbeats 4000000 in
set_option maxRecDepth 100000 in
theorem ignore_any (B lb pos start width : Nat) (s : ByteArray) (rs : List Nat) (its : List LI) (w : World) (h : LX B lb s pos start width rs its w) :
    Calls Tryz.prog 144 #[.pointer (some ⟨lb, 0, none⟩)] w (LPost B lb s pos pos width rs its w) := by
  unfold LPost
  obtain ⟨⟨st, lp, rv, iv, h1, h2, h3, h4⟩, h5⟩ := h
  obtain ⟨c0, c2, c3, c4, c6, c7, f1, f2, f3, f4, f6, f7⟩ := lx_cells h1
  have H1 := Lib.hid h1
  have H2 := Lib.hid h2
  have H3 := Lib.hid h3
  have H4 := Lib.hid h4
  clear h1 h2 h3 h4
  go_enter Tryz.func144, Tryz.ntmps144
  go_wp2
  go_end0
  exact ⟨rfl, ⟨⟨st, lp, rv, iv, (lx_set H1.out 3 _).trans rfl, row_set H2.out H1.out (by decide), row_set H3.out H1.out (by decide), H4.out⟩, h5⟩, (Below.refl B w).setCell (p := ⟨lb, 3, none⟩) h5 _⟩
theorem infoRune : (Tryz.prog.info? 21).map (fun i => (i.zero, i.size, i.bytes)) = some (some (.int .i32 0), 1, 4) := by kernel_rfl
theorem row_two {w w1 : World} {B sz1 sz2 : Nat} {e1 e2 : TypeId} {v1 v2 : Value} {n1 n2 : Nat} {x1 x2 : List Value} (h1 : w.ownsRow B e1 sz1 v1 n1 x1) (h2 : w.ownsRow B e2 sz2 v2 n2 x2) (ht : e1 ≠ e2) (hg : w.grownBy w1 v1.ownBlock) : w1.ownsRow B e2 sz2 v2 n2 x2 :=
  row_keep h2 (fun g hg2 => hg.block g (row_lt h2 hg2).2 (fun e => by
    rcases h2.2 with ⟨h0, _⟩ | ⟨g', cap, cur, h0, _, h3, _⟩
    · rw [h0] at hg2; cases hg2
    · rw [h0] at hg2
      obtain rfl : g' = g := Option.some.inj hg2
      exact row_ne h1 h3 ht e.symm))
set_option maxHeartbeats 4000000 in
set_option maxRecDepth 100000 in
theorem append_any (B lb pos start width R : Nat) (s : ByteArray) (rs : List Nat) (its : List LI) (w : World) (h : LX B lb s pos start width rs its w) (hB : B ≤ w.heap.size) (hn : rs.length ≤ 2147483647) :
    Calls Tryz.prog 152 #[.pointer (some ⟨lb, 0, none⟩), .int .i32 (R : Int)] w (LPost B lb s pos start width (rs ++ [R]) its w) := by
  unfold LPost
  have hlt := h.lt
  obtain ⟨i0, hi, hz0, hz1, hz2⟩ := info_parts infoRune
  obtain ⟨⟨st, lp, rv, iv, h1, h2, h3, h4⟩, h5⟩ := h
  obtain ⟨c0, c2, c3, c4, c6, c7, f1, f2, f3, f4, f6, f7⟩ := lx_cells h1
  have hne := row_ne h2 h1 (by decide)
  have HNE := Lib.hid hne
  have H1 := Lib.hid h1
  have H2 := Lib.hid h2
  have H3 := Lib.hid h3
  clear h1 h2 h3 h4 hne
  go_enter Tryz.func152, Tryz.ntmps152
  go_wp2_with (at_builtin; refine wpList_append_own_at _ rfl _ _ 133 rfl B 21 i0 (.int .i32 0) 1 4 Tryz.underlying133 hi hz0 hz1 hz2 rfl (by decide) rv rs.length (rs.map rcell) rfl (H2.out.alloc _) ⟨w.heap.size, 0, none⟩ 1 1 [rcell R] rfl rfl (cell_one_new _ _ _) (by intro u hu; simp at hu; subst hu; rfl) (by unfold maxLen; omega) (by omega) (by simp; omega) ?_)
  intro v' w2 hown2 hgr _ _
  obtain ⟨g9, cap9, rfl⟩ : ∃ g9 cap9, v' = .slice (some ⟨g9, 0, none⟩) (rs.length + 1) cap9 := by
    rcases hown2.2 with ⟨_, h0⟩ | ⟨g9, cap9, cur, hv, _⟩
    · omega
    · exact ⟨g9, cap9, hv⟩
  have hb2 : w2.heap[lb]? = _ := ((hgr.block lb (by simp; omega) (fun e => HNE.out e.symm)).trans (Below.heap_alloc w _ _ hlt)).trans H1.out
  obtain ⟨d0, d2, d3, d4, d6, d7, g1, g2, g3, g4, g6, g7⟩ := lx_cells hb2
  have HBK2 := Lib.hid hb2
  have HR2 := Lib.hid hown2
  have HI2 : Hid (w2.ownsRow B 169 3 iv its.length (itemsC its)) := Lib.hid (row_two (H2.out.alloc _) (row_keep H3.out (fun g hg => Below.heap_alloc w _ g (row_lt H3.out hg).2)) (by decide) hgr)
  have HB2 := Lib.hid (((Below.refl B w).alloc hB _).grown hgr (by simp; omega) (fun g hg => (row_lt H2.out hg).1))
  clear hb2 hown2 hgr c0 c2 c3 c4 c6 c7 f1 f2 f3 f4 f6 f7
  go_wp2
  go_end0
  refine ⟨rfl, ⟨⟨st, lp, _, iv, (lx_set HBK2.out 6 _).trans rfl, ?_, row_set HI2.out HBK2.out (by decide), ⟨g9, cap9, by simp⟩⟩, h5⟩, HB2.out.setCell (p := ⟨lb, 6, none⟩) h5 _⟩
  have := row_set (k := lb) (i := 6) (u := .slice (some ⟨g9, 0, none⟩) (rs.length + 1) cap9) HR2.out HBK2.out (by decide)
  simpa using this
end Go.Proofs.YtgmhigjhooihdaaGreatDoor

set_option linter.unusedVariables false
namespace Go.Proofs.YtgmhigjhooihdaaGreatDoor
open Go.RowKit Plain

theorem infoItem : (Tryz.prog.info? 169).map (fun i => (i.zero, i.size, i.bytes)) = some (some (.agg #[.int .i64 0, .int .i64 0, .string ⟨#[]⟩]), 3, 32) := by kernel_rfl
set_option maxRecDepth 100000 in
/-- 'string(rs)' -/
theorem conv_own {b0 : Nat} {lv : Value} {l : List Nat} {w : World} (h : w.ownsRow b0 21 1 lv l.length (l.map rcell)) :
    (convert 133 9 lv).run Tryz.prog w = .ok (.string (textOf l)) w := by
  rcases h.2 with ⟨hv, h0⟩ | ⟨g, cap, cur, hv, _⟩
  · subst hv
    rw [run_convert_runes_nil w _ _ _ 0 0 Tryz.underlying133 Tryz.underlying21 Tryz.underlying9]
    rw [List.eq_nil_of_length_eq_zero h0]
    rfl
  · subst hv
    have hr := run_convert_runes (P := Tryz.prog) w 133 9 21 ⟨g, 0, none⟩ l.length cap (l.map fun (n : Nat) => (n : Int)) (by simp) Tryz.underlying133 Tryz.underlying21 Tryz.underlying9 (fun j hj => by
      have hjl : j < l.length := by simpa using hj
      rw [add_at, Nat.zero_add, h.cellAt j (by omega)]
      rw [List.getElem?_map, List.getElem?_eq_getElem hjl]
      simp [rcell, hjl, List.getD])
    rw [hr, List.take_of_length_le (by simp)]
    congr 2
    have := runesBytes_list l
    unfold textOf
    rw [← this]
theorem cell_three_new (w : World) (a b c : Value) (t : TypeId) : ∀ j u, ([a, b, c] : List Value)[j]? = some u → (w.alloc (.cells #[a, b, c] t)).cell? ((⟨w.heap.size, 0, none⟩ : Addr).add j) = some u := by
  intro j u hu
  rw [add_at, Nat.zero_add, World.cell?_alloc_new]
  simpa using hu
theorem row_empty {w : World} {base : Nat} {e : TypeId} {g n cap : Nat} {xs : List Value} (h : w.ownsRow base e 1 (.slice (some ⟨g, 0, none⟩) n cap) n xs) : w.ownsRow base e 1 (.slice (some ⟨g, 0, none⟩) 0 cap) 0 [] := by
  rcases h.2 with ⟨hv, _⟩ | ⟨g', cap', cur, hv, h1, h2, h3, h4, h5, h6⟩
  · cases hv
  · injection hv with hv1 hv2 hv3
    injection hv1 with hv1
    injection hv1 with hv1
    subst hv1
    subst hv3
    exact ⟨rfl, .inr ⟨g, cap, cur, rfl, h1, h2, Nat.zero_le _, h4, h5, by simp⟩⟩
set_option maxHeartbeats 4000000 in
set_option maxRecDepth 100000 in
theorem emit_any (B lb pos start width k : Nat) (s : ByteArray) (rs : List Nat) (its : List LI) (w : World) (h : LX B lb s pos start width rs its w) (hB : B ≤ w.heap.size) (hn : its.length ≤ 1000000) :
    Calls Tryz.prog 142 #[.pointer (some ⟨lb, 0, none⟩), .int .i64 (k : Int)] w (LPost B lb s pos pos width [] (its ++ [⟨k, start, textOf rs⟩]) w) := by
  unfold LPost
  have hlt := h.lt
  obtain ⟨i0, hi, hz0, hz1, hz2⟩ := info_parts infoItem
  obtain ⟨⟨st, lp, rv, iv, h1, h2, h3, ⟨gr, cr, h4⟩⟩, h5⟩ := h
  obtain ⟨c0, c2, c3, c4, c6, c7, f1, f2, f3, f4, f6, f7⟩ := lx_cells h1
  have hv1 : ∀ W : World, Below w.heap.size w W → (convert 133 9 rv).run Tryz.prog W = .ok (.string (textOf rs)) W := fun W hb => conv_own (row_keep h2 (fun g hg => hb.block g (row_lt h2 hg).2))
  obtain ⟨X, hX⟩ : ∃ X, textOf rs = X := ⟨_, rfl⟩
  rw [hX] at hv1
  have q1 := hv1 w (Below.refl _ _)
  have q2 := hv1 w.drew (Below.refl _ _).drew
  have q3 : ∀ o, (convert 133 9 rv).run Tryz.prog (w.alloc o) = .ok (.string X) (w.alloc o) := fun o => hv1 _ ((Below.refl _ w).alloc (Nat.le_refl _) _)
  have q4 : ∀ o, (convert 133 9 rv).run Tryz.prog (w.alloc o).drew = .ok (.string X) (w.alloc o).drew := fun o => hv1 _ ((Below.refl _ w).alloc (Nat.le_refl _) _).drew
  have HV := Lib.hid hv1
  have H1 := Lib.hid h1
  have H2 := Lib.hid h2
  have H3 := Lib.hid h3
  have H4 := Lib.hid h4
  clear h1 h3 hv1
  clear h2
  subst h4
  go_enter Tryz.func142, Tryz.ntmps142
  go_wp2
  go_region
  obtain ⟨W1, hW1⟩ : ∃ W1, (w.alloc (.cells #[.int .i64 (k : Int), .int .i64 (start : Int), .string X] 169)).drew = W1 := ⟨_, rfl⟩
  have hb1 : Below w.heap.size w W1 := hW1 ▸ ((Below.refl _ w).alloc (Nat.le_refl _) _).drew
  have hit : W1.heap[w.heap.size]? = some (.cells #[.int .i64 (k : Int), .int .i64 (start : Int), .string X] 169 (0, 0)) := hW1 ▸ heap_alloc_new w _
  have hsz : W1.heap.size = w.heap.size + 1 := hW1 ▸ by simp
  rw [hW1]
  obtain ⟨N, hN⟩ : ∃ N, w.heap.size = N := ⟨_, rfl⟩
  rw [hN] at hb1 hit hsz hlt hB
  rw [hN]
  have hL1 := (hb1.block lb hlt).trans H1.out
  have r1 := row_keep H2.out (fun g hg => hb1.block g (by have := (row_lt H2.out hg).2; omega))
  have r3 := row_keep H3.out (fun g hg => hb1.block g (by have := (row_lt H3.out hg).2; omega))
  have HB1 : Hid (Below B w W1) := Lib.hid (hb1.mono hB)
  have i0' : W1.cell? ⟨N, 0, none⟩ = some (.int .i64 (k : Int)) := by simp [World.cell?, hit]
  have i1' : W1.cell? ⟨N, 1, none⟩ = some (.int .i64 (start : Int)) := by simp [World.cell?, hit]
  have i2' : W1.cell? ⟨N, 2, none⟩ = some (.string X) := by simp [World.cell?, hit]
  clear hW1 hN q1 q2 q3 q4 HV H1 H2 H3 c0 c2 c3 c4 c6 c7 f1 f2 f3 f4 f6 f7 hb1 hit
  obtain ⟨c0, c2, c3, c4, c6, c7, f1, f2, f3, f4, f6, f7⟩ := lx_cells hL1
  have hne := row_ne r3 hL1 (by decide)
  have HL1 := Lib.hid hL1
  have R1 := Lib.hid r1
  have R3 := Lib.hid r3
  have HI := Lib.hid (And.intro hi (And.intro hz0 (And.intro hz1 hz2)))
  clear hL1 r1 r3 hi hz0 hz1 hz2
  have HC : Hid (∀ j u, (itemC ⟨k, start, X⟩)[j]? = some u → (W1.alloc (.cells #[.int .i64 (k : Int), .int .i64 (start : Int), .string X] 169)).cell? ((⟨N + 1, 0, none⟩ : Addr).add j) = some u) := Lib.hid (by have := cell_three_new W1 (.int .i64 (k : Int)) (.int .i64 (start : Int)) (.string X) 169; rw [hsz] at this; exact this)
  go_wp2
  go_region_law (refine step_append_lies _ (by rfl) _ _ 162 (by rfl) B 169 i0 (.agg #[.int .i64 0, .int .i64 0, .string ⟨#[]⟩]) 3 32 Tryz.underlying162 HI.out.1 HI.out.2.1 HI.out.2.2.1 HI.out.2.2.2 rfl (by decide) iv its.length (itemsC its) (by rfl) (row_keep R3.out (fun g hg => by have := (row_lt R3.out hg).2; first | exact Below.heap_alloc W1 _ g this | rfl)) ⟨N + 1, 0, none⟩ 1 1 (itemC ⟨k, start, X⟩) (by rfl) rfl (by exact HC.out) (by intro u hu; simp [itemC] at hu; rcases hu with rfl | rfl | rfl <;> rfl) (by decide) (by unfold maxLen; omega) (by omega) (by simp; omega) (N + 1 + 1) (by simp [hsz]) ?_; intro g2 cap w3 hown1 hgrow hat hlt2; obtain ⟨e0, e2, e3, e4, e6, e7, m1, m2, m3, m4, m6, m7⟩ := lx_cells ((hgrow.block lb (by simp; omega) (fun e => hne e.symm)).trans ((Below.heap_alloc W1 _ lb (by omega)).trans HL1.out)))
  all_goals
    have hw3 : w3.heap[lb]? = _ := (hgrow.block lb (by simp; omega) (fun e => hne e.symm)).trans ((Below.heap_alloc W1 _ lb (by omega)).trans HL1.out)
    have o2 := row_two (w := (W1.alloc (.cells #[.int .i64 (k : Int), .int .i64 (start : Int), .string X] 169)).drew) (row_keep R3.out (fun g hg => Below.heap_alloc W1 (.cells #[.int .i64 (k : Int), .int .i64 (start : Int), .string X] 169) g (row_lt R3.out hg).2)) (row_keep R1.out (fun g hg => Below.heap_alloc W1 (.cells #[.int .i64 (k : Int), .int .i64 (start : Int), .string X] 169) g (row_lt R1.out hg).2)) (by decide) hgrow
    have b3 : Below B w w3 := ((HB1.out.alloc (by omega) (.cells #[.int .i64 (k : Int), .int .i64 (start : Int), .string X] 169)).drew).grown hgrow (by simp; omega) (fun g hg => (row_lt R3.out hg).1)
    have hA := lx_set hw3 7 (.slice (some ⟨g2, 0, none⟩) (its.length + 1) cap)
    have oA := row_set (k := lb) (i := 7) (u := .slice (some ⟨g2, 0, none⟩) (its.length + 1) cap) hown1 hw3 (by decide)
    have oB := row_set (k := lb) (i := 7) (u := .slice (some ⟨g2, 0, none⟩) (its.length + 1) cap) o2 hw3 (by decide)
    have bA : Below B w (w3.setCell ⟨lb, 7, none⟩ (.slice (some ⟨g2, 0, none⟩) (its.length + 1) cap)) := b3.setCell (p := ⟨lb, 7, none⟩) h5 _
    clear e0 e2 e3 e4 e6 e7 m1 m2 m3 m4 m6 m7 hown1 hgrow hat hw3 o2 b3 c0 c2 c3 c4 c6 c7 f1 f2 f3 f4 f6 f7
    generalize w3.setCell ⟨lb, 7, none⟩ (.slice (some ⟨g2, 0, none⟩) (its.length + 1) cap) = wA at hA oA oB bA ⊢
    have hA' : wA.heap[lb]? = some (.cells #[.string s, st, .int .i64 (pos : Int), .int .i64 (start : Int), .int .i64 (width : Int), .int .i64 lp, .slice (some ⟨gr, 0, none⟩) rs.length cr, .slice (some ⟨g2, 0, none⟩) (its.length + 1) cap] 164 (0, 0)) := hA
    obtain ⟨c0, c2, c3, c4, c6, c7, f1, f2, f3, f4, f6, f7⟩ := lx_cells hA'
    have HA := Lib.hid hA'
    have OA := Lib.hid oA
    have OB := Lib.hid oB
    have BA := Lib.hid bA
    clear hA hA' oA oB bA
    go_wp2
    go_end0
    have hs1 := lx_set HA.out 3 (.int .i64 (pos : Int))
    have p1 := row_set (k := lb) (i := 3) (u := .int .i64 (pos : Int)) OA.out HA.out (by decide)
    have p2 := row_set (k := lb) (i := 3) (u := .int .i64 (pos : Int)) OB.out HA.out (by decide)
    refine ⟨rfl, ⟨⟨st, lp, _, _, (lx_set hs1 6 (.slice (some ⟨gr, 0, none⟩) 0 cr)).trans rfl, row_empty (row_set p2 hs1 (by decide)), ?_, ⟨gr, cr, rfl⟩⟩, h5⟩, (BA.out.setCell (p := ⟨lb, 3, none⟩) h5 _).setCell (p := ⟨lb, 6, none⟩) h5 _⟩
    have p3 := row_set (k := lb) (i := 6) (u := .slice (some ⟨gr, 0, none⟩) 0 cr) p1 hs1 (by decide)
    rw [itemsC_snoc, hX]
    simpa using p3
end Go.Proofs.YtgmhigjhooihdaaGreatDoor

set_option linter.unusedVariables false
namespace Go.Proofs.YtgmhigjhooihdaaGreatDoor
open Go.RowKit Plain

/-- a character that is written as it is -/
def NiceR (R : Nat) : Prop := 48 ≤ R ∧ R < 128 ∧ R ≠ 58 ∧ R ≠ 61 ∧ R ≠ 92
set_option maxHeartbeats 4000000 in
set_option maxRecDepth 100000 in
theorem zi_no (q : ByteArray) (R : Nat) (w : World) (hR : R < 128) (hq : q.size ≤ 100) (hn : ∀ pos, pos < q.size → (Utf8.decode q pos).1 ≠ R) :
    Calls Tryz.prog 133 #[.string q, .int .i32 (R : Int)] w fun e w' => e = .returned (.int .i64 (-1)) ∧ Below w.heap.size w w' := by
  have c1 : ¬ (R : Int) < 0 := by omega
  have c2 : ¬ (1114111 : Int) < (R : Int) := by omega
  have c3 : ¬ (55296 : Int) ≤ (R : Int) := by omega
  have c4 : ((R : Int) == 65533) = false := by rw [beq_eq_false_iff_ne]; omega
  have HN := Lib.hid hn
  clear hn
  go_enter Tryz.func133, Tryz.ntmps133
  go_wp2
  go_loopw [5, 6] (fun pv cv wr => ∃ (pos : Nat), wr.heap[w.heap.size]? = some (.stringIter q pos) ∧ pos ≤ q.size + 4 ∧ Below w.heap.size w wr) (fun _ _ wr => q.size + 4 - wr.iterPos w.heap.size)
  case atStart => exact ⟨0, World.iter_heap w q 0, by omega, (Below.refl _ w).alloc (Nat.le_refl _) _⟩
  case round =>
    obtain ⟨pos, hit, hps, hbw⟩ := hrel
    by_cases hp : pos < q.size
    · have hnx : ∀ ty, (Instr.next (.pointer (some ⟨w.heap.size, 0, none⟩)) true ty).run Tryz.prog wr = _ := fun ty => Lib.run_next_any_at wr w.heap.size q pos ty hit hp
      have hwd := Lib.decode_width_pos q pos hp
      have hd1 := decode_le q pos
      have hw4 : (Utf8.decode q pos).2 ≤ 4 := by rw [Lib.decode_at]; unfold Lib.decodeN; (repeat' split) <;> simp
      have hne := HN.out pos hp
      have hit2 := Lib.iterAt_heap wr w.heap.size q pos (pos + (Utf8.decode q pos).2) hit
      have hbw2 := Lib.below_iterAt hbw (k := w.heap.size) (Nat.le_refl _) q (pos + (Utf8.decode q pos).2)
      obtain ⟨C, hC⟩ : ∃ C, (Utf8.decode q pos).1 = C := ⟨_, rfl⟩
      obtain ⟨K, hK⟩ : ∃ K, (Utf8.decode q pos).2 = K := ⟨_, rfl⟩
      rw [hC] at hd1 hne
      rw [hK] at hwd hw4 hit2 hbw2
      rw [hC, hK] at hnx
      clear hC hK
      have hcz : ((C : Int) == (R : Int)) = false := by rw [beq_eq_false_iff_ne]; omega
      obtain ⟨V, hV⟩ : ∃ V, wr.iterAt w.heap.size q (pos + K) = V := ⟨_, rfl⟩
      rw [hV] at hnx hit2 hbw2
      have HI := Lib.hid hit
      have HI2 := Lib.hid hit2
      have HB2 := Lib.hid hbw2
      clear hV hit hit2 hbw hbw2 hne
      go_wp2
      go_roundw
      case rel => exact ⟨pos + K, HI2.out, by omega, HB2.out⟩
      case measure =>
        have h1 := HI.out; have h2 := HI2.out
        rw [iterPos_of h2, iterPos_of h1]
        omega
    · have hnx : ∀ ty, (Instr.next (.pointer (some ⟨w.heap.size, 0, none⟩)) true ty).run Tryz.prog wr = _ := fun ty => Lib.run_next_end_at wr w.heap.size q pos ty hit hp
      have HB2 := Lib.hid hbw
      clear hbw
      go_wp2
      go_ret
      exact ⟨rfl, HB2.out⟩
theorem zc_no (q : ByteArray) (R : Nat) (w : World) (hR : R < 128) (hq : q.size ≤ 100) (hn : ∀ pos, pos < q.size → (Utf8.decode q pos).1 ≠ R) :
    Calls Tryz.prog 117 #[.string q, .int .i32 (R : Int)] w fun e w' => e = .returned (.bool false) ∧ Below w.heap.size w w' := by
  have HZ := Lib.hid (zi_no q R w hR hq hn)
  go_enter Tryz.func117, Tryz.ntmps117
  go_wp2_with (go_at_call 133; (with_reducible refine HZ.out.mono ?_); rintro e w1 ⟨rfl, hb1⟩; dsimp only)
  go_ret
  exact ⟨rfl, hb1⟩
set_option maxHeartbeats 4000000 in
set_option maxRecDepth 100000 in
theorem escape_nice (q : ByteArray) (R : Nat) (w : World) (h : NiceR R) (hq : q.size ≤ 100) (hn : ∀ pos, pos < q.size → (Utf8.decode q pos).1 ≠ R) :
    Calls Tryz.prog 104 #[.int .i32 (R : Int), .string q] w fun e w' => e = .returned (.string (Utf8.encode (R : Int))) ∧ Below w.heap.size w w' := by
  obtain ⟨h1, h2, h3, h4, h5⟩ := h
  have HZ := Lib.hid (zc_no q R w h2 hq hn)
  have d1 : ((R : Int) == 12) = false := by rw [beq_eq_false_iff_ne]; omega
  have d2 : ((R : Int) == 10) = false := by rw [beq_eq_false_iff_ne]; omega
  have d3 : ((R : Int) == 13) = false := by rw [beq_eq_false_iff_ne]; omega
  have d4 : ((R : Int) == 9) = false := by rw [beq_eq_false_iff_ne]; omega
  have d5 : ((R : Int) == 92) = false := by rw [beq_eq_false_iff_ne]; omega
  clear h3 h4 h5 hn
  go_enter Tryz.func104, Tryz.ntmps104
  go_wp2_with (go_at_call 117; (with_reducible refine HZ.out.mono ?_); rintro e w1 ⟨rfl, hb1⟩; dsimp only)
  go_ret
  exact ⟨rfl, hb1⟩
end Go.Proofs.YtgmhigjhooihdaaGreatDoor

set_option linter.unusedVariables false
namespace Go.Proofs.YtgmhigjhooihdaaGreatDoor
open Go.RowKit Plain

/-- where a rune stands in a text from 'pos' on; -1: nowhere -/
def ziF (q : ByteArray) (R : Nat) (pos : Nat) : Int :=
  if h : pos < q.size then
    if (Utf8.decode q pos).1 = R then (pos : Int)
    else ziF q R (pos + (Utf8.decode q pos).2)
  else -1
termination_by q.size - pos
decreasing_by
  have := Lib.decode_width_pos q pos h
  omega
theorem ziF_bd (q : ByteArray) (R : Nat) (pos : Nat) : -1 ≤ ziF q R pos ∧ ziF q R pos < (q.size : Int) + 1 := by
  fun_induction ziF q R pos <;> omega
/-- a rune that has no case of its own in zzIndexRune -/
def SmallR (R : Nat) : Prop := R ≤ 1114111 ∧ (R < 55296 ∨ 57343 < R) ∧ R ≠ 65533
set_option maxHeartbeats 4000000 in
set_option maxRecDepth 100000 in
theorem zi_any (q : ByteArray) (R : Nat) (w : World) (hR : SmallR R) (hq : q.size ≤ 100) (Z : Int) (hZ : ziF q R 0 = Z) :
    Calls Tryz.prog 133 #[.string q, .int .i32 (R : Int)] w fun e w' => e = .returned (.int .i64 Z) ∧ Below w.heap.size w w' := by
  obtain ⟨hR1, hR2, hR3⟩ := hR
  have c1 : ¬ (R : Int) < 0 := by omega
  have c2 : ¬ (1114111 : Int) < (R : Int) := by omega
  have c4 : ((R : Int) == 65533) = false := by rw [beq_eq_false_iff_ne]; omega
  have HZ := Lib.hid hZ
  clear hZ
  rcases hR2 with hlo | hhi
  rotate_left
  have c3 : (55296 : Int) ≤ (R : Int) := by omega
  have c5 : ¬ (R : Int) ≤ 57343 := by omega
  rotate_left
  have c3 : ¬ (55296 : Int) ≤ (R : Int) := by omega
  all_goals
    go_enter Tryz.func133, Tryz.ntmps133
    go_wp2
    go_loopw [5, 6] (fun pv cv wr => ∃ (pos : Nat), wr.heap[w.heap.size]? = some (.stringIter q pos) ∧ pos ≤ q.size + 4 ∧ Below w.heap.size w wr ∧ Hid (ziF q R pos = Z)) (fun _ _ wr => q.size + 4 - wr.iterPos w.heap.size)
    case atStart => exact ⟨0, World.iter_heap w q 0, by omega, (Below.refl _ w).alloc (Nat.le_refl _) _, HZ⟩
    case round =>
      obtain ⟨pos, hit, hps, hbw, HP⟩ := hrel
      by_cases hp : pos < q.size
      · have hnx : ∀ ty, (Instr.next (.pointer (some ⟨w.heap.size, 0, none⟩)) true ty).run Tryz.prog wr = _ := fun ty => Lib.run_next_any_at wr w.heap.size q pos ty hit hp
        have hwd := Lib.decode_width_pos q pos hp
        have hd1 := decode_le q pos
        have hw4 : (Utf8.decode q pos).2 ≤ 4 := by rw [Lib.decode_at]; unfold Lib.decodeN; (repeat' split) <;> simp
        have hst := HP.out
        rw [ziF, dif_pos hp] at hst
        have hit2 := Lib.iterAt_heap wr w.heap.size q pos (pos + (Utf8.decode q pos).2) hit
        have hbw2 := Lib.below_iterAt hbw (k := w.heap.size) (Nat.le_refl _) q (pos + (Utf8.decode q pos).2)
        obtain ⟨C, hC⟩ : ∃ C, (Utf8.decode q pos).1 = C := ⟨_, rfl⟩
        obtain ⟨K, hK⟩ : ∃ K, (Utf8.decode q pos).2 = K := ⟨_, rfl⟩
        rw [hC] at hd1 hst
        rw [hK] at hwd hw4 hit2 hbw2 hst
        rw [hC, hK] at hnx
        clear hC hK
        obtain ⟨V, hV⟩ : ∃ V, wr.iterAt w.heap.size q (pos + K) = V := ⟨_, rfl⟩
        rw [hV] at hnx hit2 hbw2
        have HI := Lib.hid hit
        have HI2 := Lib.hid hit2
        have HB2 := Lib.hid hbw2
        clear hV hit hit2 hbw hbw2
        by_cases he : C = R
        · rw [if_pos he] at hst
          have HST := Lib.hid hst
          subst he
          clear hst
          go_wp2
          go_ret
          exact ⟨congrArg (fun z => Ending.returned (.int .i64 z)) HST.out, HB2.out⟩
        · rw [if_neg he] at hst
          have HST := Lib.hid hst
          have hcz : ((C : Int) == (R : Int)) = false := by rw [beq_eq_false_iff_ne]; omega
          clear hst he
          go_wp2
          go_roundw
          case rel => exact ⟨pos + K, HI2.out, by omega, HB2.out, HST⟩
          case measure =>
            have h1 := HI.out; have h2 := HI2.out
            rw [iterPos_of h2, iterPos_of h1]
            omega
      · have hnx : ∀ ty, (Instr.next (.pointer (some ⟨w.heap.size, 0, none⟩)) true ty).run Tryz.prog wr = _ := fun ty => Lib.run_next_end_at wr w.heap.size q pos ty hit hp
        have hst := HP.out
        rw [ziF, dif_neg hp] at hst
        have HST := Lib.hid hst
        have HB2 := Lib.hid hbw
        clear hbw hst
        go_wp2
        go_ret
        exact ⟨congrArg (fun z => Ending.returned (.int .i64 z)) HST.out, HB2.out⟩
theorem zc_any (q : ByteArray) (R : Nat) (w : World) (hR : SmallR R) (hq : q.size ≤ 100) (b : Bool) (hb : decide (0 ≤ ziF q R 0) = b) :
    Calls Tryz.prog 117 #[.string q, .int .i32 (R : Int)] w fun e w' => e = .returned (.bool b) ∧ Below w.heap.size w w' := by
  obtain ⟨Z, hZ⟩ : ∃ Z, ziF q R 0 = Z := ⟨_, rfl⟩
  have HZ := Lib.hid (zi_any q R w hR hq Z hZ)
  rw [hZ] at hb
  clear hZ
  by_cases h : 0 ≤ Z
  · obtain rfl : b = true := by rw [← hb]; simp [h]
    clear hb
    go_enter Tryz.func117, Tryz.ntmps117
    go_wp2_with (go_at_call 133; (with_reducible refine HZ.out.mono ?_); rintro e w1 ⟨rfl, hb1⟩; dsimp only)
    go_ret
    exact ⟨rfl, hb1⟩
  · obtain rfl : b = false := by rw [← hb]; simp [h]
    clear hb
    go_enter Tryz.func117, Tryz.ntmps117
    go_wp2_with (go_at_call 133; (with_reducible refine HZ.out.mono ?_); rintro e w1 ⟨rfl, hb1⟩; dsimp only)
    go_ret
    exact ⟨rfl, hb1⟩
end Go.Proofs.YtgmhigjhooihdaaGreatDoor

set_option linter.unusedVariables false
namespace Go.Proofs.YtgmhigjhooihdaaGreatDoor
open Go.RowKit Plain

/-- a rune that a decoder gives -/
def RuneR (R : Nat) : Prop := R ≤ 1114111 ∧ (R < 55296 ∨ 57343 < R)
theorem rAt_ok (s : ByteArray) (p : Nat) : RuneR (rAt s p) := by
  unfold rAt
  rw [Lib.decode_at]
  have h := Lib.decodeN_valid (s.size - p) (s.get! p).toNat (s.get! (p + 1)).toNat (s.get! (p + 2)).toNat (s.get! (p + 3)).toNat (s.get! p).toNat_lt
  unfold RuneR
  omega
set_option maxHeartbeats 4000000 in
set_option maxRecDepth 100000 in
theorem zi_fffd (q : ByteArray) (R : Nat) (w : World) (hR : R = 65533) (hq : q.size ≤ 100) (Z : Int) (hZ : ziF q R 0 = Z) :
    Calls Tryz.prog 133 #[.string q, .int .i32 (R : Int)] w fun e w' => e = .returned (.int .i64 Z) ∧ Below w.heap.size w w' := by
  have c1 : ¬ (R : Int) < 0 := by omega
  have c2 : ¬ (1114111 : Int) < (R : Int) := by omega
  have c4 : (R : Int) = 65533 := by omega
  have c6 : ((65533 : Int) == 65533) = true := rfl
  have HZ := Lib.hid hZ
  clear hZ
  all_goals
    go_enter Tryz.func133, Tryz.ntmps133
    go_wp2
    go_loopw [5, 6] (fun pv cv wr => ∃ (pos : Nat), wr.heap[w.heap.size]? = some (.stringIter q pos) ∧ pos ≤ q.size + 4 ∧ Below w.heap.size w wr ∧ Hid (ziF q R pos = Z)) (fun _ _ wr => q.size + 4 - wr.iterPos w.heap.size)
    case atStart => exact ⟨0, World.iter_heap w q 0, by omega, (Below.refl _ w).alloc (Nat.le_refl _) _, HZ⟩
    case round =>
      obtain ⟨pos, hit, hps, hbw, HP⟩ := hrel
      by_cases hp : pos < q.size
      · have hnx : ∀ ty, (Instr.next (.pointer (some ⟨w.heap.size, 0, none⟩)) true ty).run Tryz.prog wr = _ := fun ty => Lib.run_next_any_at wr w.heap.size q pos ty hit hp
        have hwd := Lib.decode_width_pos q pos hp
        have hd1 := decode_le q pos
        have hw4 : (Utf8.decode q pos).2 ≤ 4 := by rw [Lib.decode_at]; unfold Lib.decodeN; (repeat' split) <;> simp
        have hst := HP.out
        rw [ziF, dif_pos hp] at hst
        have hit2 := Lib.iterAt_heap wr w.heap.size q pos (pos + (Utf8.decode q pos).2) hit
        have hbw2 := Lib.below_iterAt hbw (k := w.heap.size) (Nat.le_refl _) q (pos + (Utf8.decode q pos).2)
        obtain ⟨C, hC⟩ : ∃ C, (Utf8.decode q pos).1 = C := ⟨_, rfl⟩
        obtain ⟨K, hK⟩ : ∃ K, (Utf8.decode q pos).2 = K := ⟨_, rfl⟩
        rw [hC] at hd1 hst
        rw [hK] at hwd hw4 hit2 hbw2 hst
        rw [hC, hK] at hnx
        clear hC hK
        obtain ⟨V, hV⟩ : ∃ V, wr.iterAt w.heap.size q (pos + K) = V := ⟨_, rfl⟩
        rw [hV] at hnx hit2 hbw2
        have HI := Lib.hid hit
        have HI2 := Lib.hid hit2
        have HB2 := Lib.hid hbw2
        clear hV hit hit2 hbw hbw2
        by_cases he : C = R
        · rw [if_pos he] at hst
          have HST := Lib.hid hst
          subst he
          clear hst
          go_wp2
          go_ret
          exact ⟨congrArg (fun z => Ending.returned (.int .i64 z)) HST.out, HB2.out⟩
        · rw [if_neg he] at hst
          have HST := Lib.hid hst
          have hcz : ((C : Int) == (R : Int)) = false := by rw [beq_eq_false_iff_ne]; omega
          clear hst he
          go_wp2
          go_roundw
          case rel => exact ⟨pos + K, HI2.out, by omega, HB2.out, HST⟩
          case measure =>
            have h1 := HI.out; have h2 := HI2.out
            rw [iterPos_of h2, iterPos_of h1]
            omega
      · have hnx : ∀ ty, (Instr.next (.pointer (some ⟨w.heap.size, 0, none⟩)) true ty).run Tryz.prog wr = _ := fun ty => Lib.run_next_end_at wr w.heap.size q pos ty hit hp
        have hst := HP.out
        rw [ziF, dif_neg hp] at hst
        have HST := Lib.hid hst
        have HB2 := Lib.hid hbw
        clear hbw hst
        go_wp2
        go_ret
        exact ⟨congrArg (fun z => Ending.returned (.int .i64 z)) HST.out, HB2.out⟩

theorem zi_rune (q : ByteArray) (R : Nat) (w : World) (hR : RuneR R) (hq : q.size ≤ 100) (Z : Int) (hZ : ziF q R 0 = Z) :
    Calls Tryz.prog 133 #[.string q, .int .i32 (R : Int)] w fun e w' => e = .returned (.int .i64 Z) ∧ Below w.heap.size w w' := by
  by_cases h : R = 65533
  · exact zi_fffd q R w h hq Z hZ
  · exact zi_any q R w ⟨hR.1, hR.2, h⟩ hq Z hZ
theorem zi_eof (q : ByteArray) (w : World) :
    Calls Tryz.prog 133 #[.string q, .int .i32 (-1)] w fun e w' => e = .returned (.int .i64 (-1)) ∧ w = w' := by
  go_enter Tryz.func133, Tryz.ntmps133
  go_wp2
  go_ret
  exact ⟨rfl, rfl⟩
theorem zc_eof (q : ByteArray) (w : World) :
    Calls Tryz.prog 117 #[.string q, .int .i32 (-1)] w fun e w' => e = .returned (.bool false) ∧ w = w' := by
  have HZ := Lib.hid (zi_eof q w)
  go_enter Tryz.func117, Tryz.ntmps117
  go_wp2_with (go_at_call 133; (with_reducible refine HZ.out.mono ?_); rintro e w1 ⟨rfl, rfl⟩; dsimp only)
  go_ret
  exact ⟨rfl, rfl⟩
theorem zc_rune (q : ByteArray) (R : Nat) (w : World) (hR : RuneR R) (hq : q.size ≤ 100) (b : Bool) (hb : decide (0 ≤ ziF q R 0) = b) :
    Calls Tryz.prog 117 #[.string q, .int .i32 (R : Int)] w fun e w' => e = .returned (.bool b) ∧ Below w.heap.size w w' := by
  obtain ⟨Z, hZ⟩ : ∃ Z, ziF q R 0 = Z := ⟨_, rfl⟩
  have HZ := Lib.hid (zi_rune q R w hR hq Z hZ)
  rw [hZ] at hb
  clear hZ
  by_cases h : 0 ≤ Z
  · obtain rfl : b = true := by rw [← hb]; simp [h]
    clear hb
    go_enter Tryz.func117, Tryz.ntmps117
    go_wp2_with (go_at_call 133; (with_reducible refine HZ.out.mono ?_); rintro e w1 ⟨rfl, hb1⟩; dsimp only)
    go_ret
    exact ⟨rfl, hb1⟩
  · obtain rfl : b = false := by rw [← hb]; simp [h]
    clear hb
    go_enter Tryz.func117, Tryz.ntmps117
    go_wp2_with (go_at_call 133; (with_reducible refine HZ.out.mono ?_); rintro e w1 ⟨rfl, hb1⟩; dsimp only)
    go_ret
    exact ⟨rfl, hb1⟩
theorem get_bang (q : ByteArray) (p : Nat) (h : p < q.size) : q.get! p = q[p]'h := by
  unfold ByteArray.get!
  exact getElem!_pos q.data p h
theorem dec_asc (q : ByteArray) (p : Nat) (h : p < q.size) (ha : (q[p]'h).toNat < 128) : Utf8.decode q p = ((q[p]'h).toNat, 1) := by
  rw [Lib.decode_at]
  have e : (q.get! p).toNat = (q[p]'h).toNat := by rw [get_bang q p h]
  rw [e]
  exact decodeN_ascii' _ _ _ _ _ ha
/-- a byte of that number stands in a text -/
def hasB (l : List UInt8) (R : Nat) : Bool := l.any fun b => b.toNat == R
theorem ziF_has (q : ByteArray) (R : Nat) (ha : ∀ b ∈ q.data.toList, b.toNat < 128) : ∀ pos, decide (0 ≤ ziF q R pos) = hasB (q.data.toList.drop pos) R := by
  intro pos
  fun_induction ziF q R pos with
  | case1 pos h he =>
    have hl : pos < q.data.toList.length := by rw [← Lib.size_eq]; exact h
    have hd := dec_asc q pos h (ha _ (by show q.data[pos] ∈ _; simp))
    rw [List.drop_eq_getElem_cons hl]
    unfold hasB
    rw [List.any_cons]
    rw [hd] at he
    have : (q.data.toList[pos]).toNat = R := he
    rw [this]
    simp
  | case2 pos h he ih =>
    have hl : pos < q.data.toList.length := by rw [← Lib.size_eq]; exact h
    have hd := dec_asc q pos h (ha _ (by show q.data[pos] ∈ _; simp))
    rw [hd] at ih he ⊢
    rw [ih, List.drop_eq_getElem_cons hl]
    unfold hasB
    rw [List.any_cons]
    have : ((q.data.toList[pos]).toNat == R) = false := by rw [beq_eq_false_iff_ne]; exact he
    rw [this, Bool.false_or]
  | case3 pos h =>
    rw [List.drop_eq_nil_of_le (by rw [← Lib.size_eq]; omega)]
    rfl
theorem z_isWs (R : Nat) (w : World) (hR : RuneR R) (b : Bool) (hb : wsR R = b) :
    Calls Tryz.prog 117 #[.string ⟨#[32, 12, 9]⟩, .int .i32 (R : Int)] w fun e w' => e = .returned (.bool b) ∧ Below w.heap.size w w' := by
  refine zc_rune _ R w hR (by decide) b ?_
  rw [ziF_has _ R (by decide), ← hb]
  show hasB [32, 12, 9] R = _
  unfold hasB wsR
  rw [Bool.eq_iff_iff]
  simp
  omega
theorem isWs_at (R : Nat) (w : World) (hR : RuneR R) (b : Bool) (hb : wsR R = b) :
    Calls Tryz.prog 147 #[.int .i32 (R : Int)] w fun e w' => e = .returned (.bool b) ∧ Below w.heap.size w w' := by
  have HZ := Lib.hid (z_isWs R w hR b hb)
  clear hb
  go_enter Tryz.func147, Tryz.ntmps147
  go_wp2_with (go_at_call 117; (with_reducible refine HZ.out.mono ?_); rintro e w1 ⟨rfl, hb1⟩; dsimp only)
  go_ret
  exact ⟨rfl, hb1⟩
theorem isWs_eof (w : World) :
    Calls Tryz.prog 147 #[.int .i32 (-1)] w fun e w' => e = .returned (.bool false) ∧ w = w' := by
  have HZ := Lib.hid (zc_eof ⟨#[32, 12, 9]⟩ w)
  go_enter Tryz.func147, Tryz.ntmps147
  go_wp2_with (go_at_call 117; (with_reducible refine HZ.out.mono ?_); rintro e w1 ⟨rfl, rfl⟩; dsimp only)
  go_ret
  exact ⟨rfl, rfl⟩
theorem z_isEnd (R : Nat) (w : World) (hR : RuneR R) (b : Bool) (hb : endK R = b) :
    Calls Tryz.prog 117 #[.string ⟨#[32, 12, 9, 13, 10, 58, 61]⟩, .int .i32 (R : Int)] w fun e w' => e = .returned (.bool b) ∧ Below w.heap.size w w' := by
  refine zc_rune _ R w hR (by decide) b ?_
  rw [ziF_has _ R (by decide), ← hb]
  show hasB [32, 12, 9, 13, 10, 58, 61] R = _
  unfold hasB endK
  rw [Bool.eq_iff_iff]
  simp
  omega
theorem isEnd_at (R : Nat) (w : World) (hR : RuneR R) (b : Bool) (hb : endK R = b) :
    Calls Tryz.prog 156 #[.int .i32 (R : Int)] w fun e w' => e = .returned (.bool b) ∧ Below w.heap.size w w' := by
  have HZ := Lib.hid (z_isEnd R w hR b hb)
  clear hb
  go_enter Tryz.func156, Tryz.ntmps156
  go_wp2_with (go_at_call 117; (with_reducible refine HZ.out.mono ?_); rintro e w1 ⟨rfl, hb1⟩; dsimp only)
  go_ret
  exact ⟨rfl, hb1⟩
theorem isEnd_eof (w : World) :
    Calls Tryz.prog 156 #[.int .i32 (-1)] w fun e w' => e = .returned (.bool false) ∧ w = w' := by
  have HZ := Lib.hid (zc_eof ⟨#[32, 12, 9, 13, 10, 58, 61]⟩ w)
  go_enter Tryz.func156, Tryz.ntmps156
  go_wp2_with (go_at_call 117; (with_reducible refine HZ.out.mono ?_); rintro e w1 ⟨rfl, rfl⟩; dsimp only)
  go_ret
  exact ⟨rfl, rfl⟩
theorem z_isEscC (R : Nat) (w : World) (hR : RuneR R) (b : Bool) (hb : escC R = b) :
    Calls Tryz.prog 117 #[.string ⟨#[32, 58, 61, 102, 110, 114, 116]⟩, .int .i32 (R : Int)] w fun e w' => e = .returned (.bool b) ∧ Below w.heap.size w w' := by
  refine zc_rune _ R w hR (by decide) b ?_
  rw [ziF_has _ R (by decide), ← hb]
  show hasB [32, 58, 61, 102, 110, 114, 116] R = _
  unfold hasB escC
  rw [Bool.eq_iff_iff]
  simp
  omega
theorem isEscC_at (R : Nat) (w : World) (hR : RuneR R) (b : Bool) (hb : escC R = b) :
    Calls Tryz.prog 158 #[.int .i32 (R : Int)] w fun e w' => e = .returned (.bool b) ∧ Below w.heap.size w w' := by
  have HZ := Lib.hid (z_isEscC R w hR b hb)
  clear hb
  go_enter Tryz.func158, Tryz.ntmps158
  go_wp2_with (go_at_call 117; (with_reducible refine HZ.out.mono ?_); rintro e w1 ⟨rfl, hb1⟩; dsimp only)
  go_ret
  exact ⟨rfl, hb1⟩
theorem isEscC_eof (w : World) :
    Calls Tryz.prog 158 #[.int .i32 (-1)] w fun e w' => e = .returned (.bool false) ∧ w = w' := by
  have HZ := Lib.hid (zc_eof ⟨#[32, 58, 61, 102, 110, 114, 116]⟩ w)
  go_enter Tryz.func158, Tryz.ntmps158
  go_wp2_with (go_at_call 117; (with_reducible refine HZ.out.mono ?_); rintro e w1 ⟨rfl, rfl⟩; dsimp only)
  go_ret
  exact ⟨rfl, rfl⟩
def sepR (R : Nat) : Bool := R == 58 || R == 61
theorem z_sep (R : Nat) (w : World) (hR : RuneR R) (b : Bool) (hb : sepR R = b) :
    Calls Tryz.prog 117 #[.string ⟨#[58, 61]⟩, .int .i32 (R : Int)] w fun e w' => e = .returned (.bool b) ∧ Below w.heap.size w w' := by
  refine zc_rune _ R w hR (by decide) b ?_
  rw [ziF_has _ R (by decide), ← hb]
  show hasB [58, 61] R = _
  unfold hasB sepR
  rw [Bool.eq_iff_iff]
  simp
  omega
def hexB (R : Nat) : Bool := (hexR R).isSome
theorem isEOF_at (R : Nat) (w : World) :
    Calls Tryz.prog 141 #[.int .i32 (R : Int)] w fun e w' => e = .returned (.bool false) ∧ w = w' := by
  have h : ((R : Int) == -1) = false := by rw [beq_eq_false_iff_ne]; omega
  go_enter Tryz.func141, Tryz.ntmps141
  go_wp2
  go_ret
  exact ⟨rfl, rfl⟩
theorem isEOF_eof (w : World) :
    Calls Tryz.prog 141 #[.int .i32 (-1)] w fun e w' => e = .returned (.bool true) ∧ w = w' := by
  go_enter Tryz.func141, Tryz.ntmps141
  go_wp2
  go_ret
  exact ⟨rfl, rfl⟩
theorem isEOL_at (R : Nat) (w : World) (b : Bool) (hb : eolR R = b) :
    Calls Tryz.prog 143 #[.int .i32 (R : Int)] w fun e w' => e = .returned (.bool b) ∧ w = w' := by
  by_cases h0 : R = 10
  · obtain rfl : b = true := by rw [← hb]; subst h0; rfl
    have h : ((R : Int) == 10) = true := by rw [beq_iff_eq]; omega
    clear hb h0
    go_enter Tryz.func143, Tryz.ntmps143
    go_wp2
    go_ret
    exact ⟨rfl, rfl⟩
  · have h : ((R : Int) == 10) = false := by rw [beq_eq_false_iff_ne]; omega
    have h2 : ((R : Int) == 13) = b := by rw [← hb, Bool.eq_iff_iff]; simp [eolR]; omega
    clear hb h0
    go_enter Tryz.func143, Tryz.ntmps143
    go_wp2
    go_ret
    exact ⟨rfl, rfl⟩
theorem isEOL_eof (w : World) :
    Calls Tryz.prog 143 #[.int .i32 (-1)] w fun e w' => e = .returned (.bool false) ∧ w = w' := by
  go_enter Tryz.func143, Tryz.ntmps143
  go_wp2
  go_ret
  exact ⟨rfl, rfl⟩
theorem isCom_at (R : Nat) (w : World) (b : Bool) (hb : (R == 35 || R == 33) = b) :
    Calls Tryz.prog 145 #[.int .i32 (R : Int)] w fun e w' => e = .returned (.bool b) ∧ w = w' := by
  by_cases h0 : R = 35
  · obtain rfl : b = true := by rw [← hb]; subst h0; rfl
    have h : ((R : Int) == 35) = true := by rw [beq_iff_eq]; omega
    clear hb h0
    go_enter Tryz.func145, Tryz.ntmps145
    go_wp2
    go_ret
    exact ⟨rfl, rfl⟩
  · have h : ((R : Int) == 35) = false := by rw [beq_eq_false_iff_ne]; omega
    have h2 : ((R : Int) == 33) = b := by rw [← hb, Bool.eq_iff_iff]; simp; omega
    clear hb h0
    go_enter Tryz.func145, Tryz.ntmps145
    go_wp2
    go_ret
    exact ⟨rfl, rfl⟩
theorem isCom_eof (w : World) :
    Calls Tryz.prog 145 #[.int .i32 (-1)] w fun e w' => e = .returned (.bool false) ∧ w = w' := by
  go_enter Tryz.func145, Tryz.ntmps145
  go_wp2
  go_ret
  exact ⟨rfl, rfl⟩
theorem isEsc_at (R : Nat) (w : World) (b : Bool) (hb : (R == 92) = b) :
    Calls Tryz.prog 153 #[.int .i32 (R : Int)] w fun e w' => e = .returned (.bool b) ∧ w = w' := by
  have h : ((R : Int) == 92) = b := by rw [← hb, Bool.eq_iff_iff]; simp; omega
  clear hb
  go_enter Tryz.func153, Tryz.ntmps153
  go_wp2
  go_ret
  exact ⟨rfl, rfl⟩
theorem isEsc_eof (w : World) :
    Calls Tryz.prog 153 #[.int .i32 (-1)] w fun e w' => e = .returned (.bool false) ∧ w = w' := by
  go_enter Tryz.func153, Tryz.ntmps153
  go_wp2
  go_ret
  exact ⟨rfl, rfl⟩
theorem atLit_at (R : Nat) (w : World) (b : Bool) (hb : (R == 117) = b) :
    Calls Tryz.prog 160 #[.int .i32 (R : Int)] w fun e w' => e = .returned (.bool b) ∧ w = w' := by
  have h : ((R : Int) == 117) = b := by rw [← hb, Bool.eq_iff_iff]; simp; omega
  clear hb
  go_enter Tryz.func160, Tryz.ntmps160
  go_wp2
  go_ret
  exact ⟨rfl, rfl⟩
theorem atLit_eof (w : World) :
    Calls Tryz.prog 160 #[.int .i32 (-1)] w fun e w' => e = .returned (.bool false) ∧ w = w' := by
  go_enter Tryz.func160, Tryz.ntmps160
  go_wp2
  go_ret
  exact ⟨rfl, rfl⟩
theorem decEsc_at (R : Nat) (w : World) :
    Calls Tryz.prog 159 #[.int .i32 (R : Int)] w fun e w' => e = .returned (.int .i32 (decEsc R : Int)) ∧ w = w' := by
  unfold decEsc
  by_cases h102 : R = 102
  · rw [if_pos h102]
    subst h102
    go_enter Tryz.func159, Tryz.ntmps159
    go_wp2
    go_ret
    exact ⟨rfl, rfl⟩
  rw [if_neg h102]
  have q102 : ((R : Int) == 102) = false := by rw [beq_eq_false_iff_ne]; omega
  by_cases h110 : R = 110
  · rw [if_pos h110]
    subst h110
    go_enter Tryz.func159, Tryz.ntmps159
    go_wp2
    go_ret
    exact ⟨rfl, rfl⟩
  rw [if_neg h110]
  have q110 : ((R : Int) == 110) = false := by rw [beq_eq_false_iff_ne]; omega
  by_cases h114 : R = 114
  · rw [if_pos h114]
    subst h114
    go_enter Tryz.func159, Tryz.ntmps159
    go_wp2
    go_ret
    exact ⟨rfl, rfl⟩
  rw [if_neg h114]
  have q114 : ((R : Int) == 114) = false := by rw [beq_eq_false_iff_ne]; omega
  by_cases h116 : R = 116
  · rw [if_pos h116]
    subst h116
    go_enter Tryz.func159, Tryz.ntmps159
    go_wp2
    go_ret
    exact ⟨rfl, rfl⟩
  rw [if_neg h116]
  have q116 : ((R : Int) == 116) = false := by rw [beq_eq_false_iff_ne]; omega
  go_enter Tryz.func159, Tryz.ntmps159
  go_wp2
  go_ret
  exact ⟨rfl, rfl⟩
end Go.Proofs.YtgmhigjhooihdaaGreatDoor

set_option linter.unusedVariables false
namespace Go.Proofs.YtgmhigjhooihdaaGreatDoor
open Go.RowKit Plain

/-- the lexer, whatever the last width -/
def LY (B lb : Nat) (s : ByteArray) (pos start : Nat) (rs : List Nat) (its : List LI) (w : World) : Prop := ∃ wd, LX B lb s pos start wd rs its w
theorem LY.below {B lb pos start : Nat} {s : ByteArray} {rs : List Nat} {its : List LI} {w w' : World} (h : LY B lb s pos start rs its w) (hb : Below w.heap.size w w') : LY B lb s pos start rs its w' := by
  obtain ⟨wd, h⟩ := h
  exact ⟨wd, h.below hb⟩
theorem LY.lt {B lb pos start : Nat} {s : ByteArray} {rs : List Nat} {its : List LI} {w : World} (h : LY B lb s pos start rs its w) : B ≤ w.heap.size := by
  obtain ⟨wd, h⟩ := h
  exact Nat.le_trans h.lo (Nat.le_of_lt h.lt)
def YPost (B lb : Nat) (s : ByteArray) (pos start : Nat) (rs : List Nat) (its : List LI) (r : Ending) (w : World) (e : Ending) (w' : World) : Prop := e = r ∧ LY B lb s pos start rs its w' ∧ Below B w w'
theorem nextY_at (B lb pos start : Nat) (s : ByteArray) (rs : List Nat) (its : List LI) (w : World) (h : LY B lb s pos start rs its w) (hs : s.size ≤ 2147483647) (hp : pos < s.size) (hT : TabsL B w) (R K : Nat) (hR : rAt s pos = R) (hK : kAt s pos = K) :
    Calls Tryz.prog 140 #[.pointer (some ⟨lb, 0, none⟩)] w (NextPost B lb s start rs its (R : Int) (pos + K) K w) := by
  have hB := h.lt
  obtain ⟨wd, h⟩ := h
  exact next_at B lb pos start wd s rs its w h hB hs hp hT R K hR hK
theorem nextY_end (B lb pos start : Nat) (s : ByteArray) (rs : List Nat) (its : List LI) (w : World) (h : LY B lb s pos start rs its w) (hs : s.size ≤ 2147483647) (hp : ¬ pos < s.size) (hp2 : pos ≤ s.size) :
    Calls Tryz.prog 140 #[.pointer (some ⟨lb, 0, none⟩)] w (NextPost B lb s start rs its (-1) pos 0 w) := by
  have hB := h.lt
  obtain ⟨wd, h⟩ := h
  exact next_end B lb pos start wd s rs its w h hB hs hp hp2
theorem emitY (B lb pos start k : Nat) (s : ByteArray) (rs : List Nat) (its : List LI) (w : World) (h : LY B lb s pos start rs its w) (hn : its.length ≤ 1000000) :
    Calls Tryz.prog 142 #[.pointer (some ⟨lb, 0, none⟩), .int .i64 (k : Int)] w (YPost B lb s pos pos [] (its ++ [⟨k, start, textOf rs⟩]) (.returned (.tuple #[])) w) := by
  have hB := h.lt
  obtain ⟨wd, h⟩ := h
  exact (emit_any B lb pos start wd k s rs its w h hB hn).mono fun e w' h => ⟨h.1, ⟨wd, h.2.1⟩, h.2.2⟩
theorem ignoreY (B lb pos start : Nat) (s : ByteArray) (rs : List Nat) (its : List LI) (w : World) (h : LY B lb s pos start rs its w) :
    Calls Tryz.prog 144 #[.pointer (some ⟨lb, 0, none⟩)] w (YPost B lb s pos pos rs its (.returned (.tuple #[])) w) := by
  obtain ⟨wd, h⟩ := h
  exact (ignore_any B lb pos start wd s rs its w h).mono fun e w' h => ⟨h.1, ⟨wd, h.2.1⟩, h.2.2⟩
theorem appendY (B lb pos start R : Nat) (s : ByteArray) (rs : List Nat) (its : List LI) (w : World) (h : LY B lb s pos start rs its w) (hn : rs.length ≤ 2147483647) :
    Calls Tryz.prog 152 #[.pointer (some ⟨lb, 0, none⟩), .int .i32 (R : Int)] w (YPost B lb s pos start (rs ++ [R]) its (.returned (.tuple #[])) w) := by
  have hB := h.lt
  obtain ⟨wd, h⟩ := h
  exact (append_any B lb pos start wd R s rs its w h hB hn).mono fun e w' h => ⟨h.1, ⟨wd, h.2.1⟩, h.2.2⟩
theorem backupY (B lb p K start : Nat) (s : ByteArray) (rs : List Nat) (its : List LI) (w : World) (h : LX B lb s (p + K) start K rs its w) (hs : p + K ≤ 2147483647) :
    Calls Tryz.prog 148 #[.pointer (some ⟨lb, 0, none⟩)] w (YPost B lb s p start rs its (.returned (.tuple #[])) w) :=
  (backup_any B lb p K start s rs its w h hs).mono fun e w' h => ⟨h.1, ⟨K, h.2.1⟩, h.2.2⟩
set_option maxHeartbeats 4000000 in
set_option maxRecDepth 100000 in
theorem peek_at (B lb pos start : Nat) (s : ByteArray) (rs : List Nat) (its : List LI) (w : World) (h : LY B lb s pos start rs its w) (hs : s.size ≤ 2147483647) (hp : pos < s.size) (hT : TabsL B w) (R : Nat) (hR : rAt s pos = R) :
    Calls Tryz.prog 165 #[.pointer (some ⟨lb, 0, none⟩)] w (YPost B lb s pos start rs its (.returned (.int .i32 (R : Int))) w) := by
  unfold YPost
  obtain ⟨K, hK⟩ : ∃ K, kAt s pos = K := ⟨_, rfl⟩
  have hk := kAt_pos s pos hp
  rw [hK] at hk
  have HN := Lib.hid (nextY_at B lb pos start s rs its w h hs hp hT R K hR hK)
  have HBK := Lib.hid (fun w' (h : LX B lb s (pos + K) start K rs its w') => backupY B lb pos K start s rs its w' h (by omega))
  clear h hT hR hK hk
  go_enter Tryz.func165, Tryz.ntmps165
  go_wp2_with (go_at_call 140; (with_reducible refine HN.out.mono ?_); rintro e w1 ⟨rfl, hx, hb1⟩; dsimp only)
  have HX := Lib.hid hx
  have HB1 := Lib.hid hb1
  clear hx hb1
  go_wp2_with (go_at_call 148; (with_reducible refine (HBK.out _ HX.out).mono ?_); rintro e w2 ⟨rfl, hy, hb2⟩; dsimp only)
  have HY := Lib.hid hy
  have HB2 := Lib.hid (HB1.out.trans hb2)
  clear hy hb2
  go_wp2
  go_ret
  exact ⟨rfl, HY.out, HB2.out⟩
set_option maxHeartbeats 4000000 in
set_option maxRecDepth 100000 in
theorem peek_end (B lb pos start : Nat) (s : ByteArray) (rs : List Nat) (its : List LI) (w : World) (h : LY B lb s pos start rs its w) (hs : s.size ≤ 2147483647) (hp : ¬ pos < s.size) (hp2 : pos ≤ s.size) :
    Calls Tryz.prog 165 #[.pointer (some ⟨lb, 0, none⟩)] w (YPost B lb s pos start rs its (.returned (.int .i32 (-1))) w) := by
  unfold YPost
  have HN := Lib.hid (nextY_end B lb pos start s rs its w h hs hp hp2)
  have HBK := Lib.hid (fun w' (h : LX B lb s (pos + 0) start 0 rs its w') => backupY B lb pos 0 start s rs its w' h (by omega))
  clear h
  go_enter Tryz.func165, Tryz.ntmps165
  go_wp2_with (go_at_call 140; (with_reducible refine HN.out.mono ?_); rintro e w1 ⟨rfl, hx, hb1⟩; dsimp only)
  have HX := Lib.hid hx
  have HB1 := Lib.hid hb1
  clear hx hb1
  go_wp2_with (go_at_call 148; (with_reducible refine (HBK.out _ HX.out).mono ?_); rintro e w2 ⟨rfl, hy, hb2⟩; dsimp only)
  have HY := Lib.hid hy
  have HB2 := Lib.hid (HB1.out.trans hb2)
  clear hy hb2
  go_wp2
  go_ret
  exact ⟨rfl, HY.out, HB2.out⟩
set_option maxHeartbeats 4000000 in
set_option maxRecDepth 100000 in
theorem run_ws (B lb pos start P : Nat) (s : ByteArray) (rs : List Nat) (its : List LI) (w : World) (h : LY B lb s pos start rs its w) (hs : s.size ≤ 2147483647) (hp2 : pos ≤ s.size) (hT : TabsL B w) (hP : skipW s pos = P) :
    Calls Tryz.prog 151 #[.pointer (some ⟨lb, 0, none⟩), .string ⟨#[32, 12, 9]⟩] w (YPost B lb s P start rs its (.returned (.tuple #[])) w) := by
  unfold YPost
  have HH := Lib.hid h
  have HP := Lib.hid hP
  clear h hP
  go_enter Tryz.func151, Tryz.ntmps151
  go_wp2
  go_loopg [6] (s.size - pos + 1) (fun g v wr => ∃ p, Hid (LY B lb s p start rs its wr) ∧ Hid (skipW s p = P) ∧ p ≤ s.size ∧ Hid (Below B w wr) ∧ g = s.size - p + 1)
  case atStart => exact ⟨pos, HH, HP, hp2, Lib.hid (Below.refl _ _), rfl⟩
  case round =>
    obtain ⟨p, HY, HW, hpp, HB, rfl⟩ := hrel
    have hTr := hT.below HB.out
    by_cases hlt : p < s.size
    · obtain ⟨R, hR⟩ : ∃ R, rAt s p = R := ⟨_, rfl⟩
      obtain ⟨K, hK⟩ : ∃ K, kAt s p = K := ⟨_, rfl⟩
      have hok := rAt_ok s p
      have hk := kAt_pos s p hlt
      have hst := HW.out
      rw [skipW, dif_pos hlt, hR, hK] at hst
      rw [hR] at hok
      rw [hK] at hk
      have HN := Lib.hid (nextY_at B lb p start s rs its _ HY.out hs hlt hTr R K hR hK)
      cases hw : wsR R with
      | true =>
        rw [hw, if_pos rfl] at hst
        have HZ := Lib.hid (fun w => z_isWs R w hok true hw)
        have HST := Lib.hid hst
        clear hst hok hR hK hw hTr
        go_wp2_with (go_at_call 140; (with_reducible refine HN.out.mono ?_); rintro e w1 ⟨rfl, hx, hb1⟩; dsimp only)
        have HX := Lib.hid hx
        have HB1 := Lib.hid (HB.out.trans hb1)
        clear hx hb1
        go_wp2_with (go_at_call 117; (with_reducible refine (HZ.out _).mono ?_); rintro e w2 ⟨rfl, hb2⟩; dsimp only)
        have HB2 : Hid (Below B w w2) := Lib.hid (HB1.out.trans (hb2.mono (Nat.le_trans HX.out.lo (Nat.le_of_lt HX.out.lt))))
        have HY2 : Hid (LY B lb s (p + K) start rs its w2) := Lib.hid ⟨K, HX.out.below hb2⟩
        clear hb2
        go_wp2
        go_roundg (s.size - (p + K) + 1)
        case measure => omega
        case rel => exact ⟨p + K, HY2, HST, by omega, HB2, rfl⟩
      | false =>
        rw [hw, if_neg (by decide)] at hst
        have HZ := Lib.hid (fun w => z_isWs R w hok false hw)
        subst hst
        have HBK := Lib.hid (fun w' (h : LX B lb s (p + K) start K rs its w') => backupY B lb p K start s rs its w' h (by omega))
        clear hok hR hK hw hTr
        go_wp2_with (go_at_call 140; (with_reducible refine HN.out.mono ?_); rintro e w1 ⟨rfl, hx, hb1⟩; dsimp only)
        have HX := Lib.hid hx
        have HB1 := Lib.hid (HB.out.trans hb1)
        clear hx hb1
        go_wp2_with (go_at_call 117; (with_reducible refine (HZ.out _).mono ?_); rintro e w2 ⟨rfl, hb2⟩; dsimp only)
        have HB2 : Hid (Below B w w2) := Lib.hid (HB1.out.trans (hb2.mono (Nat.le_trans HX.out.lo (Nat.le_of_lt HX.out.lt))))
        have HX2 := Lib.hid (HX.out.below hb2)
        clear hb2
        go_wp2_with (go_at_call 148; (with_reducible refine (HBK.out _ HX2.out).mono ?_); rintro e w3 ⟨rfl, hy, hb3⟩; dsimp only)
        have HY := Lib.hid hy
        have HB3 := Lib.hid (HB2.out.trans hb3)
        clear hy hb3
        go_wp2
        go_end0
        exact ⟨rfl, HY.out, HB3.out⟩
    · have hst := HW.out
      rw [skipW, dif_neg hlt] at hst
      subst hst
      have HN := Lib.hid (nextY_end B lb p start s rs its _ HY.out hs hlt hpp)
      have HBK := Lib.hid (fun w' (h : LX B lb s (p + 0) start 0 rs its w') => backupY B lb p 0 start s rs its w' h (by omega))
      have HZ := Lib.hid (fun w => zc_eof ⟨#[32, 12, 9]⟩ w)
      clear hTr
      go_wp2_with (go_at_call 140; (with_reducible refine HN.out.mono ?_); rintro e w1 ⟨rfl, hx, hb1⟩; dsimp only)
      have HX := Lib.hid hx
      have HB1 := Lib.hid (HB.out.trans hb1)
      clear hx hb1
      go_wp2_with (go_at_call 117; (with_reducible refine (HZ.out _).mono ?_); rintro e w2 ⟨rfl, rfl⟩; dsimp only)
      go_wp2_with (go_at_call 148; (with_reducible refine (HBK.out _ HX.out).mono ?_); rintro e w3 ⟨rfl, hy, hb3⟩; dsimp only)
      have HY := Lib.hid hy
      have HB3 := Lib.hid (HB1.out.trans hb3)
      clear hy hb3
      go_wp2
      go_end0
      exact ⟨rfl, HY.out, HB3.out⟩
end Go.Proofs.YtgmhigjhooihdaaGreatDoor

set_option linter.unusedVariables false
namespace Go.Proofs.YtgmhigjhooihdaaGreatDoor
open Go.RowKit Plain

set_option maxHeartbeats 4000000 in
set_option maxRecDepth 100000 in
theorem errorY (B lb pos start : Nat) (s q : ByteArray) (rs : List Nat) (its : List LI) (w : World) (h : LY B lb s pos start rs its w) (hn : its.length ≤ 1000000) :
    Calls Tryz.prog 155 #[.pointer (some ⟨lb, 0, none⟩), .string q] w (YPost B lb s pos start rs (its ++ [⟨0, start, q⟩]) (.returned .nilFunc) w) := by
  unfold YPost
  have hB := h.lt
  obtain ⟨wd, h⟩ := h
  have hlt := h.lt
  obtain ⟨i0, hi, hz0, hz1, hz2⟩ := info_parts infoItem
  have HI := Lib.hid (And.intro hi (And.intro hz0 (And.intro hz1 hz2)))
  clear hi hz0 hz1 hz2
  obtain ⟨⟨st, lp, rv, iv, h1, h2, h3, h4⟩, h5⟩ := h
  obtain ⟨c0, c2, c3, c4, c6, c7, f1, f2, f3, f4, f6, f7⟩ := lx_cells h1
  have hne := row_ne h3 h1 (by decide)
  obtain ⟨N, hN⟩ : ∃ N, w.heap.size = N := ⟨_, rfl⟩
  have HC : Hid (∀ j u, (itemC ⟨0, start, q⟩)[j]? = some u → (w.alloc (.cells #[.int .i64 0, .int .i64 (start : Int), .string q] 169)).cell? ((⟨N, 0, none⟩ : Addr).add j) = some u) := Lib.hid (by have := cell_three_new w (.int .i64 0) (.int .i64 (start : Int)) (.string q) 169; rw [hN] at this; exact this)
  have HNN := Lib.hid hN
  have hlN : lb < N := hN ▸ hlt
  have k7 : ∀ o, (w.alloc o).cell? ⟨lb, 7, none⟩ = some iv := fun o => (((Below.refl w.heap.size w).alloc (Nat.le_refl _) o).cell hlt).trans c7
  have k3 : ∀ o, (w.alloc o).cell? ⟨lb, 3, none⟩ = some (.int .i64 (start : Int)) := fun o => (((Below.refl w.heap.size w).alloc (Nat.le_refl _) o).cell hlt).trans c3
  have H1 := Lib.hid h1
  have R1 := Lib.hid h2
  have R3 := Lib.hid h3
  have H4 := Lib.hid h4
  clear h1 h2 h3 h4
  go_enter Tryz.func155, Tryz.ntmps155
  go_wp2
  go_region_law (refine step_append_lies _ (by rfl) _ _ 162 (by rfl) B 169 i0 (.agg #[.int .i64 0, .int .i64 0, .string ⟨#[]⟩]) 3 32 Tryz.underlying162 HI.out.1 HI.out.2.1 HI.out.2.2.1 HI.out.2.2.2 rfl (by decide) iv its.length (itemsC its) (by rfl) (row_keep R3.out (fun g hg => by have := (row_lt R3.out hg).2; first | exact Below.heap_alloc w _ g this | rfl)) ⟨N, 0, none⟩ 1 1 (itemC ⟨0, start, q⟩) (by rfl) rfl (by exact HC.out) (by intro u hu; simp [itemC] at hu; rcases hu with rfl | rfl | rfl <;> rfl) (by decide) (by unfold maxLen; omega) (by omega) (by simp; omega) (N + 1) (by have := HNN.out; simp; omega) ?_; intro g2 cap w3 hown1 hgrow hat hlt2; obtain ⟨e0, e2, e3, e4, e6, e7, m1, m2, m3, m4, m6, m7⟩ := lx_cells ((hgrow.block lb (by simp; omega) (fun e => hne e.symm)).trans ((Below.heap_alloc w _ lb (by omega)).trans H1.out)))
  all_goals
    have hw3 : w3.heap[lb]? = _ := (hgrow.block lb (by simp; omega) (fun e => hne e.symm)).trans ((Below.heap_alloc w _ lb (by omega)).trans H1.out)
    have o2 := row_two (w := (w.alloc (.cells #[.int .i64 0, .int .i64 (start : Int), .string q] 169)).drew) (row_keep R3.out (fun g hg => Below.heap_alloc w (.cells #[.int .i64 0, .int .i64 (start : Int), .string q] 169) g (row_lt R3.out hg).2)) (row_keep R1.out (fun g hg => Below.heap_alloc w (.cells #[.int .i64 0, .int .i64 (start : Int), .string q] 169) g (row_lt R1.out hg).2)) (by decide) hgrow
    have b3 : Below B w w3 := (((Below.refl B w).alloc (by omega) (.cells #[.int .i64 0, .int .i64 (start : Int), .string q] 169)).drew).grown hgrow (by simp; omega) (fun g hg => (row_lt R3.out hg).1)
    have hA := lx_set hw3 7 (.slice (some ⟨g2, 0, none⟩) (its.length + 1) cap)
    have oA := row_set (k := lb) (i := 7) (u := .slice (some ⟨g2, 0, none⟩) (its.length + 1) cap) hown1 hw3 (by decide)
    have oB := row_set (k := lb) (i := 7) (u := .slice (some ⟨g2, 0, none⟩) (its.length + 1) cap) o2 hw3 (by decide)
    have bA : Below B w (w3.setCell ⟨lb, 7, none⟩ (.slice (some ⟨g2, 0, none⟩) (its.length + 1) cap)) := b3.setCell (p := ⟨lb, 7, none⟩) h5 _
    clear e0 e2 e3 e4 e6 e7 m1 m2 m3 m4 m6 m7 hown1 hgrow hat hw3 o2 b3 c0 c2 c3 c4 c6 c7 f1 f2 f3 f4 f6 f7
    generalize w3.setCell ⟨lb, 7, none⟩ (.slice (some ⟨g2, 0, none⟩) (its.length + 1) cap) = wA at hA oA oB bA ⊢
    have HA := Lib.hid hA
    have OA := Lib.hid oA
    have OB := Lib.hid oB
    have BA := Lib.hid bA
    clear hA oA oB bA
    go_wp2
    go_ret
    refine ⟨rfl, ⟨wd, ⟨st, lp, _, _, HA.out, OB.out, ?_, H4.out⟩, h5⟩, BA.out⟩
    have := OA.out
    rw [itemsC_snoc]
    simpa using this
def APost (B lb : Nat) (s : ByteArray) (pos start : Nat) (rs : List Nat) (its : List LI) (w : World) (e : Ending) (w' : World) : Prop := ∃ b : Bool, e = .returned (.bool b) ∧ LY B lb s pos start rs its w' ∧ Below B w w'
set_option maxHeartbeats 4000000 in
set_option maxRecDepth 100000 in
theorem acc_any (B lb pos start P : Nat) (s : ByteArray) (rs : List Nat) (its : List LI) (w : World) (h : LY B lb s pos start rs its w) (hs : s.size ≤ 2147483647) (hp2 : pos ≤ s.size) (hT : TabsL B w) (hP : accS s pos = P) :
    Calls Tryz.prog 162 #[.pointer (some ⟨lb, 0, none⟩), .string ⟨#[58, 61]⟩] w (APost B lb s P start rs its w) := by
  unfold APost
  by_cases hlt : pos < s.size
  · obtain ⟨R, hR⟩ : ∃ R, rAt s pos = R := ⟨_, rfl⟩
    obtain ⟨K, hK⟩ : ∃ K, kAt s pos = K := ⟨_, rfl⟩
    have hok := rAt_ok s pos
    have hk := kAt_pos s pos hlt
    have hst := hP
    rw [accS, if_pos hlt, hR, hK] at hst
    rw [hR] at hok
    rw [hK] at hk
    have HN := Lib.hid (nextY_at B lb pos start s rs its _ h hs hlt hT R K hR hK)
    cases hw : sepR R with
    | true =>
      have hw2 : R = 58 ∨ R = 61 := by simpa [sepR] using hw
      rw [if_pos hw2] at hst
      subst hst
      have HZ := Lib.hid (fun w => z_sep R w hok true hw)
      clear hw2 hok hR hK hw hT h hP
      go_enter Tryz.func162, Tryz.ntmps162
      go_wp2_with (go_at_call 140; (with_reducible refine HN.out.mono ?_); rintro e w1 ⟨rfl, hx, hb1⟩; dsimp only)
      have HX := Lib.hid hx
      have HB1 := Lib.hid hb1
      clear hx hb1
      go_wp2_with (go_at_call 117; (with_reducible refine (HZ.out _).mono ?_); rintro e w2 ⟨rfl, hb2⟩; dsimp only)
      have HB2 : Hid (Below B w w2) := Lib.hid (HB1.out.trans (hb2.mono (Nat.le_trans HX.out.lo (Nat.le_of_lt HX.out.lt))))
      have HY2 : Hid (LY B lb s (pos + K) start rs its w2) := Lib.hid ⟨K, HX.out.below hb2⟩
      clear hb2
      go_wp2
      go_ret
      exact ⟨true, rfl, HY2.out, HB2.out⟩
    | false =>
      have hw2 : ¬ (R = 58 ∨ R = 61) := by simpa [sepR] using hw
      rw [if_neg hw2] at hst
      subst hst
      have HZ := Lib.hid (fun w => z_sep R w hok false hw)
      have HBK := Lib.hid (fun w' (h : LX B lb s (pos + K) start K rs its w') => backupY B lb pos K start s rs its w' h (by omega))
      clear hw2 hok hR hK hw hT h hP
      go_enter Tryz.func162, Tryz.ntmps162
      go_wp2_with (go_at_call 140; (with_reducible refine HN.out.mono ?_); rintro e w1 ⟨rfl, hx, hb1⟩; dsimp only)
      have HX := Lib.hid hx
      have HB1 := Lib.hid hb1
      clear hx hb1
      go_wp2_with (go_at_call 117; (with_reducible refine (HZ.out _).mono ?_); rintro e w2 ⟨rfl, hb2⟩; dsimp only)
      have HB2 : Hid (Below B w w2) := Lib.hid (HB1.out.trans (hb2.mono (Nat.le_trans HX.out.lo (Nat.le_of_lt HX.out.lt))))
      have HX2 := Lib.hid (HX.out.below hb2)
      clear hb2
      go_wp2_with (go_at_call 148; (with_reducible refine (HBK.out _ HX2.out).mono ?_); rintro e w3 ⟨rfl, hy, hb3⟩; dsimp only)
      have HY := Lib.hid hy
      have HB3 := Lib.hid (HB2.out.trans hb3)
      clear hy hb3
      go_wp2
      go_ret
      exact ⟨false, rfl, HY.out, HB3.out⟩
  · have hst := hP
    rw [accS, if_neg hlt] at hst
    subst hst
    have HN := Lib.hid (nextY_end B lb pos start s rs its _ h hs hlt hp2)
    have HBK := Lib.hid (fun w' (h : LX B lb s (pos + 0) start 0 rs its w') => backupY B lb pos 0 start s rs its w' h (by omega))
    have HZ := Lib.hid (fun w => zc_eof ⟨#[58, 61]⟩ w)
    clear hT h hP
    go_enter Tryz.func162, Tryz.ntmps162
    go_wp2_with (go_at_call 140; (with_reducible refine HN.out.mono ?_); rintro e w1 ⟨rfl, hx, hb1⟩; dsimp only)
    have HX := Lib.hid hx
    have HB1 := Lib.hid hb1
    clear hx hb1
    go_wp2_with (go_at_call 117; (with_reducible refine (HZ.out _).mono ?_); rintro e w2 ⟨rfl, rfl⟩; dsimp only)
    go_wp2_with (go_at_call 148; (with_reducible refine (HBK.out _ HX.out).mono ?_); rintro e w3 ⟨rfl, hy, hb3⟩; dsimp only)
    have HY := Lib.hid hy
    have HB3 := Lib.hid (HB1.out.trans hb3)
    clear hy hb3
    go_wp2
    go_ret
    exact ⟨false, rfl, HY.out, HB3.out⟩
end Go.Proofs.YtgmhigjhooihdaaGreatDoor

set_option linter.unusedVariables false
namespace Go.Proofs.YtgmhigjhooihdaaGreatDoor
open Go.RowKit Plain

def digV (b : UInt8) : Nat := (hexR b.toNat).getD 0
def hexF (l : List UInt8) : Nat := l.foldl (fun a b => 16 * a + digV b) 0
def IsHex (l : List UInt8) : Prop := ∀ b ∈ l, (48 ≤ b.toNat ∧ b.toNat ≤ 57) ∨ (97 ≤ b.toNat ∧ b.toNat ≤ 102) ∨ (65 ≤ b.toNat ∧ b.toNat ≤ 70)
theorem digV_le (b : UInt8) : digV b ≤ 15 := by
  unfold digV hexR
  (repeat' split) <;> simp <;> omega
theorem hexF_snoc (l : List UInt8) (b : UInt8) : hexF (l ++ [b]) = 16 * hexF l + digV b := by simp [hexF]
theorem hexF_lt : ∀ (n : Nat) (l : List UInt8), l.length ≤ n → hexF l < 16 ^ n := by
  intro n
  induction n with
  | zero =>
    intro l h
    have h0 : l = [] := List.eq_nil_of_length_eq_zero (by omega)
    subst h0
    decide
  | succ n ih =>
    intro l h
    rcases List.eq_nil_or_concat l with rfl | ⟨l', b, rfl⟩
    · exact Nat.pow_pos (by decide)
    · have h1 := ih l' (by simp at h; omega)
      rw [List.concat_eq_append, hexF_snoc, Nat.pow_succ]
      have := digV_le b
      omega
theorem or32 (c : Nat) (h : (97 ≤ c ∧ c ≤ 102) ∨ (65 ≤ c ∧ c ≤ 70)) : bits .or .u8 (c : Int) 32 = (if 97 ≤ c then (c : Int) else (c : Int) + 32) := by
  have key : ∀ x : Fin 128, ((97 ≤ x.val ∧ x.val ≤ 102) ∨ (65 ≤ x.val ∧ x.val ≤ 70)) → bits .or .u8 ((x.val : Nat) : Int) 32 = (if 97 ≤ x.val then ((x.val : Nat) : Int) else ((x.val : Nat) : Int) + 32) := by decide +kernel
  exact key ⟨c, by omega⟩ h
set_option maxHeartbeats 32000000 in
set_option maxRecDepth 100000 in
theorem pu16 (t : ByteArray) (hne : t.size ≠ 0) (hmax : t.size ≤ 4) (hx : IsHex t.data.toList) (w : World) (V : Int) (hV : (hexF t.data.toList : Int) = V) :
    Calls Tryz.prog 168 #[.string t, .int .i64 16, .int .i64 0] w fun e w' => e = .returned (.tuple #[.int .u64 V, .nilIface]) ∧ Below w.heap.size w w' := by
  have hemp : t.toList.isEmpty = false := by
    rw [← decide_eq_emptyBytes]
    exact decide_eq_false (fun h => hne (by rw [h]; rfl))
  have hcv := Lib.run_convert_string_bytes (P := Tryz.prog) w 9 83 5 t (u := .string) Tryz.underlying9 Tryz.underlying83 Tryz.underlying5
  have hB : ∀ j, j < t.size → (Lib.bytesWorld w 5 t).cell? ⟨w.heap.size, j, none⟩ = some (.int .u8 (t.data.toList.getD j 0).toNat) := fun j hj => Lib.bytesWorld_cell w 5 t j hj
  have hbw : Below w.heap.size w (Lib.bytesWorld w 5 t) := Lib.bytesWorld_below _ _ _
  obtain ⟨W1, hW1⟩ : ∃ W1, W1 = Lib.bytesWorld w 5 t := ⟨_, rfl⟩
  rw [← hW1] at hcv hB hbw
  have HBW := Lib.hid hbw
  clear hW1 hbw
  obtain ⟨bs, hL⟩ : ∃ bs, bs = t.data.toList := ⟨_, rfl⟩
  have hLn : bs.length = t.size := by rw [hL, Lib.size_eq]
  rw [← hL] at hB hx hV
  have HXX := Lib.hid hx
  have HV := Lib.hid hV
  have HLn := Lib.hid hLn
  clear hL hx hV hLn
  have hmv : IntKind.u64.wrap (IntKind.u64.wrap 18446744073709551616 - 1) = 18446744073709551615 := by
    rw [IntKind.wrap_u64, IntKind.wrap_u64]
    decide
  go_enter Tryz.func168, Tryz.ntmps168
  go_wp2
  go_loop [12, 13, 101] (fun vu vn vi => ∃ (k : Nat) (a : Int), vu = .bool false ∧ vn = .int .u64 a ∧ vi = .int .i64 k ∧ k ≤ t.size ∧ Hid (a = (hexF (bs.take k) : Int)))
    (fun _ _ vi => t.size - (intOf vi).toNat)
  case atStart => exact ⟨0, 0, rfl, rfl, rfl, by omega, rfl⟩
  case round =>
    obtain ⟨k, a, rfl, rfl, rfl, hk, hh⟩ := hrel
    by_cases hkn : k < t.size
    · have ha := hh.out
      have hc := hB k hkn
      have hlen := HLn.out
      have hget : bs.getD k 0 = bs[k]'(by omega) := by simp [List.getD, List.getElem?_eq_getElem (show k < bs.length by omega)]
      have hlt3 := hexF_lt 3 (bs.take k) (by rw [List.length_take]; omega)
      rw [hget] at hc
      have hsn : bs.take (k + 1) = bs.take k ++ [bs[k]'(by omega)] := List.take_succ_eq_append_getElem (by omega)
      have hcl := HXX.out (bs[k]'(by omega)) (List.getElem_mem _)
      obtain ⟨c, hcc⟩ : ∃ c, bs[k]'(by omega) = c := ⟨_, rfl⟩
      rw [hcc] at hc hsn hcl
      have a0 : 0 ≤ a := by omega
      have a1 : a ≤ 4095 := by
        have : (16 : Nat) ^ 3 = 4096 := by decide
        omega
      have HS : Hid (∀ d : Int, d = (digV c : Int) → (16 * a + d) = (hexF (bs.take (k + 1)) : Int)) := Lib.hid (fun d hd => by rw [hsn, hexF_snoc, ha, hd]; omega)
      have hkz : (k : Int) < (t.size : Int) := by omega
      have hdv : Hid (digV c = if 48 ≤ c.toNat ∧ c.toNat ≤ 57 then c.toNat - 48 else if 97 ≤ c.toNat then c.toNat - 87 else c.toNat - 55) := Lib.hid (by
        unfold digV hexR
        rcases hcl with h | h | h
        · rw [if_pos h, if_pos h]; rfl
        · rw [if_neg (by omega), if_pos h, if_neg (by omega), if_pos (by omega)]; rfl
        · rw [if_neg (by omega), if_neg (by omega), if_pos h, if_neg (by omega), if_neg (by omega)]; rfl)
      clear hget hsn hcc hlt3 hlen ha hh hB
      have hns : ((c.toNat : Int) == 95) = false := by rw [beq_eq_false_iff_ne]; omega
      by_cases hdig : 48 ≤ c.toNat ∧ c.toNat ≤ 57
      · obtain ⟨hd0, hd1⟩ := hdig
        have HN := Lib.hid (HS.out ((c.toNat : Int) - 48) (by rw [hdv.out, if_pos ⟨hd0, hd1⟩]; omega))
        have icut : a < 1152921504606846976 := by omega
        have iov : a * 16 + ((c.toNat : Int) - 48) < 18446744073709551616 := by omega
        clear hcl
        go_wp2
        refine ⟨⟨k + 1, a * 16 + ((c.toNat : Int) - 48), rfl, (by first | rfl | (congr 1; omega)), (by first | rfl | (congr 1; omega)), by omega, Lib.hid (by rw [← HN.out]; omega)⟩, by simp [intOf]; omega⟩
      · obtain ⟨z, hz⟩ : ∃ z, bits .or .u8 (c.toNat : Int) 32 = z := ⟨_, rfl⟩
        have hzz := or32 c.toNat (by omega)
        rw [hz] at hzz
        have hz1 : 97 ≤ z ∧ z ≤ 102 := by rw [hzz]; split <;> omega
        obtain ⟨hz0, hz2⟩ := hz1
        have HN := Lib.hid (HS.out (z - 97 + 10) (by
          rw [hdv.out, if_neg hdig, hzz]
          split <;> omega))
        have HLo := Lib.hid (fun w => Tryz.internal_strconv_lower (c.toNat : Int) w)
        rw [hz] at HLo
        have icut : a < 1152921504606846976 := by omega
        have iov : a * 16 + (z - 97 + 10) < 18446744073709551616 := by omega
        have hnd : (c.toNat : Int) < 48 ∨ (57 : Int) < (c.toNat : Int) := by omega
        have hnd1 : (57 : Int) < (c.toNat : Int) := by omega
        clear hcl hz hzz hdig hnd
        go_wp2_with (go_at_call 173; (with_reducible refine (HLo.out _).mono ?_); rintro e w' ⟨rfl, rfl⟩; dsimp only)
        refine ⟨⟨k + 1, a * 16 + (z - 97 + 10), rfl, (by first | rfl | (congr 1; omega)), (by first | rfl | (congr 1; omega)), by omega, Lib.hid (by rw [← HN.out]; omega)⟩, by simp [intOf]; omega⟩
    · have hkz : ¬ (k : Int) < (t.size : Int) := by omega
      have hk2 : k = t.size := by omega
      have ha := hh.out
      rw [List.take_of_length_le (by rw [HLn.out]; omega), HV.out] at ha
      subst ha
      clear hh hB
      go_wp2
      go_ret2
      exact ⟨rfl, HBW.out⟩
set_option maxHeartbeats 4000000 in
set_option maxRecDepth 100000 in
theorem pi16i (t : ByteArray) (hne : t.size ≠ 0) (hmax : t.size ≤ 4) (hx : IsHex t.data.toList) (w : World) (V : Int) (hV : (hexF t.data.toList : Int) = V) :
    Calls Tryz.prog 166 #[.string t, .int .i64 16, .int .i64 0] w fun e w' => e = .returned (.tuple #[.int .i64 V, .nilIface]) ∧ Below w.heap.size w w' := by
  have hemp : t.toList.isEmpty = false := by
    rw [← decide_eq_emptyBytes]
    exact decide_eq_false (fun h => hne (by rw [h]; rfl))
  have HP := Lib.hid (pu16 t hne hmax hx w V hV)
  have hp : 0 < t.size := by omega
  have hpz : (0 : Int) < (t.size : Int) := by omega
  have h0 := hx (t[0]'hp) (by show t.data[0] ∈ _; simp)
  have q1 : (((t[0]'hp).toNat : Int) == 43) = false := by rw [beq_eq_false_iff_ne]; omega
  have q2 : (((t[0]'hp).toNat : Int) == 45) = false := by rw [beq_eq_false_iff_ne]; omega
  have hlt := hexF_lt 4 t.data.toList (by rw [← Lib.size_eq]; exact hmax)
  have hV1 : V < 9223372036854775808 := by
    have : (16 : Nat) ^ 4 = 65536 := by decide
    omega
  have hV0 : 0 ≤ V := by omega
  clear hx h0 hV hlt hne
  go_enter Tryz.func166, Tryz.ntmps166
  go_wp2_with (go_at_call 168; (with_reducible refine HP.out.mono ?_); rintro e w1 ⟨rfl, hb1⟩; dsimp only)
  go_wp2
  go_ret2
  exact ⟨rfl, hb1⟩
set_option maxHeartbeats 4000000 in
set_option maxRecDepth 100000 in
theorem pi16 (t : ByteArray) (hne : t.size ≠ 0) (hmax : t.size ≤ 4) (hx : IsHex t.data.toList) (w : World) (V : Int) (hV : (hexF t.data.toList : Int) = V) :
    Calls Tryz.prog 164 #[.string t, .int .i64 16, .int .i64 0] w fun e w' => e = .returned (.tuple #[.int .i64 V, .nilIface]) ∧ Below w.heap.size w w' := by
  have HP := Lib.hid (pi16i t hne hmax hx w V hV)
  clear hx hV
  go_enter Tryz.func164, Tryz.ntmps164
  go_wp2_with (go_at_call 166; (with_reducible refine HP.out.mono ?_); rintro e w1 ⟨rfl, hb1⟩; dsimp only)
  go_wp2
  go_ret2
  exact ⟨rfl, hb1⟩
end Go.Proofs.YtgmhigjhooihdaaGreatDoor

set_option linter.unusedVariables false
namespace Go.Proofs.YtgmhigjhooihdaaGreatDoor
open Go.RowKit Plain

theorem nextYK_at (B lb pos start : Nat) (s : ByteArray) (rs : List Nat) (its : List LI) (w : World) (h : LY B lb s pos start rs its w) (hs : s.size ≤ 2147483647) (hp : pos < s.size) (hT : TabsL B w) (R K : Nat) (hR : rAt s pos = R) (hK : kAt s pos = K) :
    Calls Tryz.prog 140 #[.pointer (some ⟨lb, 0, none⟩)] w (NextPostK B lb s start rs its (R : Int) (pos + K) K w) := by
  have hB := h.lt
  obtain ⟨wd, h⟩ := h
  exact next_atK B lb pos start wd s rs its w h hB hs hp hT R K hR hK
theorem nextYK_end (B lb pos start : Nat) (s : ByteArray) (rs : List Nat) (its : List LI) (w : World) (h : LY B lb s pos start rs its w) (hs : s.size ≤ 2147483647) (hp : ¬ pos < s.size) (hp2 : pos ≤ s.size) :
    Calls Tryz.prog 140 #[.pointer (some ⟨lb, 0, none⟩)] w (NextPostK B lb s start rs its (-1) pos 0 w) := by
  have hB := h.lt
  obtain ⟨wd, h⟩ := h
  exact next_endK B lb pos start wd s rs its w h hB hs hp hp2
/-- a new error with a text -/
def NewErr (q : ByteArray) (w : World) (e : Ending) (w' : World) : Prop := ∃ N : Nat, e = .returned (.iface 196 (.pointer (some ⟨N, 0, none⟩))) ∧ w'.cell? ⟨N, 0, none⟩ = some (.string q) ∧ Below w.heap.size w w'
theorem newErr_any (q : ByteArray) (w : World) : Calls Tryz.prog 106 #[.string q] w (NewErr q w) := by
  unfold NewErr
  go_enter Tryz.func106, Tryz.ntmps106
  go_wp2
  go_ret
  exact ⟨w.heap.size, rfl, by rw [World.cell?_alloc_new]; rfl, (Below.refl _ w).alloc (Nat.le_refl _) _⟩
def hexN (xs : List Nat) : Nat := xs.foldl (fun a r => 16 * a + (hexR r).getD 0) 0
theorem hexN_snoc (xs : List Nat) (r : Nat) : hexN (xs ++ [r]) = 16 * hexN xs + (hexR r).getD 0 := by simp [hexN]
def AllHex (xs : List Nat) : Prop := ∀ r ∈ xs, hexB r = true
theorem hexB_rng {R : Nat} (h : hexB R = true) : (48 ≤ R ∧ R ≤ 57) ∨ (97 ≤ R ∧ R ≤ 102) ∨ (65 ≤ R ∧ R ≤ 70) := by
  unfold hexB hexR at h
  (repeat' split at h) <;> simp at h <;> omega
theorem hexB_of {R : Nat} (h : (48 ≤ R ∧ R ≤ 57) ∨ (97 ≤ R ∧ R ≤ 102) ∨ (65 ≤ R ∧ R ≤ 70)) : hexB R = true := by
  unfold hexB hexR
  rcases h with h | h | h
  · rw [if_pos h]; rfl
  · rw [if_neg (by omega), if_pos h]; rfl
  · rw [if_neg (by omega), if_neg (by omega), if_pos h]; rfl
theorem z_hex (R : Nat) (w : World) (hR : RuneR R) (b : Bool) (hb : hexB R = b) :
    Calls Tryz.prog 117 #[.string ⟨#[48, 49, 50, 51, 52, 53, 54, 55, 56, 57, 97, 98, 99, 100, 101, 102, 65, 66, 67, 68, 69, 70]⟩, .int .i32 (R : Int)] w fun e w' => e = .returned (.bool b) ∧ Below w.heap.size w w' := by
  refine zc_rune _ R w hR (by decide) b ?_
  rw [ziF_has _ R (by decide), ← hb]
  show hasB [48, 49, 50, 51, 52, 53, 54, 55, 56, 57, 97, 98, 99, 100, 101, 102, 65, 66, 67, 68, 69, 70] R = _
  rw [Bool.eq_iff_iff]
  constructor
  · intro h
    unfold hasB at h
    simp at h
    exact hexB_of (by omega)
  · intro h
    have := hexB_rng h
    unfold hasB
    simp
    omega
theorem text_hex (xs : List Nat) (h : AllHex xs) : (textOf xs).data.toList = xs.map UInt8.ofNat ∧ IsHex (textOf xs).data.toList ∧ hexF (textOf xs).data.toList = hexN xs := by
  have e1 : (textOf xs).data.toList = xs.map UInt8.ofNat := by
    unfold textOf
    rw [List.toList_toArray]
    induction xs with
    | nil => rfl
    | cons r xs ih =>
      have hr := hexB_rng (h r List.mem_cons_self)
      have e2 : Lib.encodeRune (r : Int) = [UInt8.ofNat r] := by
        have key : ∀ X : Fin 128, Lib.encodeRune ((X.val : Nat) : Int) = [UInt8.ofNat X.val] := by decide +kernel
        exact key ⟨r, by omega⟩
      rw [List.map_cons, List.flatten_cons, ih (fun r' h' => h r' (List.mem_cons_of_mem _ h')), e2]
      rfl
  have hto : ∀ r ∈ xs, (UInt8.ofNat r).toNat = r := fun r hr => by
    have := hexB_rng (h r hr)
    rw [UInt8.toNat_ofNat']
    omega
  refine ⟨e1, ?_, ?_⟩
  · rw [e1]
    intro b hb
    obtain ⟨r, hr, rfl⟩ := List.mem_map.1 hb
    rw [hto r hr]
    exact hexB_rng (h r hr)
  · rw [e1]
    unfold hexF hexN
    rw [List.foldl_map]
    have : ∀ (ys : List Nat) (a : Nat), (∀ r ∈ ys, (UInt8.ofNat r).toNat = r) → List.foldl (fun x y => 16 * x + digV (UInt8.ofNat y)) a ys = List.foldl (fun a r => 16 * a + (hexR r).getD 0) a ys := by
      intro ys
      induction ys with
      | nil => intro a _; rfl
      | cons y ys ih =>
        intro a hy
        rw [List.foldl_cons, List.foldl_cons]
        have : digV (UInt8.ofNat y) = (hexR y).getD 0 := by unfold digV; rw [hy y List.mem_cons_self]
        rw [this]
        exact ih _ (fun r hr => hy r (List.mem_cons_of_mem _ hr))
    exact this xs 0 hto
abbrev litMsg : ByteArray := ⟨#[105, 110, 118, 97, 108, 105, 100, 32, 117, 110, 105, 99, 111, 100, 101, 32, 108, 105, 116, 101, 114, 97, 108]⟩
/-- what a scan leaves: the rune behind the others; or an error with its text -/
def ScanPost (B lb : Nat) (s : ByteArray) (start : Nat) (rs : List Nat) (its : List LI) (o : Option (Nat × Nat)) (msg : ByteArray) (w : World) (e : Ending) (w' : World) : Prop :=
  match o with
  | some x => e = .returned .nilIface ∧ LY B lb s x.2 start (rs ++ [x.1]) its w' ∧ Below B w w'
  | none => ∃ N q : Nat, e = .returned (.iface 196 (.pointer (some ⟨N, 0, none⟩))) ∧ w'.cell? ⟨N, 0, none⟩ = some (.string msg) ∧ LY B lb s q start rs its w' ∧ Below B w w'
theorem mk4 (w : World) : (Instr.makeSlice 133 (.int .i64 4) (.int .i64 4)).run Tryz.prog w = .ok (.slice (some ⟨w.heap.size, 0, none⟩) 4 4) (w.alloc (.cells #[.int .i32 0, .int .i32 0, .int .i32 0, .int .i32 0] 21)) := by
  have h := Go.run_make_row' (P := Tryz.prog) 133 21 (.int .i32 0) 4 Tryz.underlying133 infoRune rfl .i64 .i64 4 (by decide) (by decide) w
  rw [show madeCells #[Value.int .i32 0] 4 = #[.int .i32 0, .int .i32 0, .int .i32 0, .int .i32 0] by kernel_rfl] at h
  exact h
theorem lxC_inj {s : ByteArray} {st st' rv rv' iv iv' : Value} {p p' a a' b b' : Nat} {lp lp' : Int} (h : some (lxC s st p a b lp rv iv) = some (lxC s st' p' a' b' lp' rv' iv')) : st = st' ∧ lp = lp' ∧ rv = rv' ∧ iv = iv' := by
  simp only [lxC, Option.some.injEq, Obj.cells.injEq, Array.mk.injEq, List.cons.injEq, Value.int.injEq] at h
  simp_all
/-- a row of four runes -/
def Row4 (g : Nat) (xs : List Nat) (w : World) : Prop := w.heap[g]? = some (.cells (xs.map rcell ++ List.replicate (4 - xs.length) (Value.int .i32 0)).toArray 21 (0, 0))
theorem Row4.cell {g i : Nat} {xs : List Nat} {w : World} (h : Row4 g xs w) (hi : i < 4) (hl : xs.length = i) : w.cell? ⟨g, i, none⟩ = some (.int .i32 0) ∧ w.frozen? ⟨g, i, none⟩ = false := by
  unfold Row4 at h
  constructor
  · unfold World.cell?
    rw [h]
    obtain ⟨m, hm⟩ : ∃ m, 4 - i = m + 1 := ⟨3 - i, by omega⟩
    simp [hl, hm]
  · unfold World.frozen?
    rw [h]
    simp
theorem Row4.store {g : Nat} {xs : List Nat} {w : World} (h : Row4 g xs w) (hi : xs.length < 4) (r : Nat) : Row4 g (xs ++ [r]) (w.setCell ⟨g, xs.length, none⟩ (.int .i32 (r : Int))) := by
  unfold Row4 at h ⊢
  rw [lx_set h]
  congr 2
  apply Array.toList_inj.1
  simp only [Array.toList_setIfInBounds, List.map_append, List.length_append]
  rw [List.set_append_right _ _ (by simp)]
  obtain ⟨m, hm⟩ : ∃ m, 4 - xs.length = m + 1 := ⟨3 - xs.length, by omega⟩
  have hm2 : 4 - (xs.length + [r].length) = m := by simp; omega
  rw [hm, hm2]
  simp [List.replicate_succ, rcell]
set_option maxRecDepth 100000 in
theorem row4_conv {g : Nat} {xs : List Nat} {w : World} (h : Row4 g xs w) (hl : xs.length = 4) : (convert 133 9 (.slice (some ⟨g, 0, none⟩) 4 4)).run Tryz.prog w = .ok (.string (textOf xs)) w := by
  have hr := run_convert_runes (P := Tryz.prog) w 133 9 21 ⟨g, 0, none⟩ 4 4 (xs.map fun (n : Nat) => (n : Int)) (by simp [hl]) Tryz.underlying133 Tryz.underlying21 Tryz.underlying9 (fun j hj => by
    have hjl : j < xs.length := by simpa using hj
    rw [add_at, Nat.zero_add]
    unfold Row4 at h
    unfold World.cell?
    rw [h]
    simp [List.getElem?_append, hjl, rcell, List.getD])
  rw [hr, List.take_of_length_le (by simp [hl])]
  congr 2
  have := runesBytes_list xs
  unfold textOf
  rw [← this]
set_option maxHeartbeats 8000000 in
set_option maxRecDepth 100000 in
theorem lit_any (B lb pos start : Nat) (s : ByteArray) (rs : List Nat) (its : List LI) (w : World) (h : LY B lb s pos start rs its w) (hs : s.size ≤ 2147483647) (hp2 : pos ≤ s.size) (hT : TabsL B w) (hn : rs.length ≤ 2147483647) (o : Option (Nat × Nat)) (ho : hexs s 4 pos 0 = o) :
    Calls Tryz.prog 161 #[.pointer (some ⟨lb, 0, none⟩)] w (ScanPost B lb s start rs its o litMsg w) := by
  have HH := Lib.hid h
  have HO := Lib.hid ho
  clear h ho
  go_enter Tryz.func161, Tryz.ntmps161
  have hmk := mk4
  obtain ⟨D, hD⟩ : ∃ D, w.heap.size = D := ⟨_, rfl⟩
  obtain ⟨wd0, hx0⟩ := HH.out
  have hlD : lb < D := hD ▸ hx0.lt
  obtain ⟨⟨st, lp, rv, iv, g1, g2, g3, g4⟩, g5⟩ := hx0
  have g2lt := fun g hg => (row_lt g2 (g := g) hg).2
  have g3lt := fun g hg => (row_lt g3 (g := g) hg).2
  have hBD : B ≤ D := Nat.le_trans g5 (Nat.le_of_lt hlD)
  obtain ⟨W0, hW0⟩ : ∃ W0, w.alloc (.cells #[.int .i32 0, .int .i32 0, .int .i32 0, .int .i32 0] 21) = W0 := ⟨_, rfl⟩
  have hb0 : Below w.heap.size w W0 := hW0 ▸ (Below.refl _ w).alloc (Nat.le_refl _) _
  have HR0 : Hid (Row4 D [] W0) := Lib.hid (by rw [← hD, ← hW0]; exact heap_alloc_new w _)
  -- the lexer in a later world
  have HG : Hid (∀ (p wd : Nat) (W : World), W.heap[lb]? = some (lxC s st p start wd lp rv iv) → (∀ j, j < D → j ≠ lb → W.heap[j]? = w.heap[j]?) → LX B lb s p start wd rs its W) := Lib.hid (fun p wd W hw hk => by
    refine ⟨⟨st, lp, rv, iv, hw, row_keep g2 (fun g hg => hk g (hD ▸ g2lt g hg) (fun e => ?_)), row_keep g3 (fun g hg => hk g (hD ▸ g3lt g hg) (fun e => ?_)), g4⟩, g5⟩
    · exact row_ne g2 g1 (by decide) (by rw [hg, e])
    · exact row_ne g3 g1 (by decide) (by rw [hg, e]))
  have HS0 : Hid (W0.heap[lb]? = some (lxC s st pos start wd0 lp rv iv) ∧ (∀ j, j < D → j ≠ lb → W0.heap[j]? = w.heap[j]?) ∧ D < W0.heap.size) := Lib.hid ⟨(hb0.block lb (by omega)).trans g1, fun j hj _ => hb0.block j (by omega), by rw [← hW0, ← hD]; simp⟩
  have HB0 : Hid (Below B w W0) := Lib.hid (hb0.mono (by omega))
  clear hb0 g1 g2 g3 g4 g2lt g3lt
  go_wp2
  try rw [hW0, hD]
  clear hW0
  go_loopg [4] 4 (fun g iv' wr => ∃ (i p wd : Nat) (xs : List Nat), iv' = .int .i64 i ∧ i ≤ 4 ∧ g = 4 - i ∧ Hid (xs.length = i) ∧ Hid (AllHex xs) ∧ p ≤ s.size ∧ Hid (Below B w wr) ∧ Hid (Row4 D xs wr) ∧ Hid (hexs s (4 - i) p (hexN xs) = o) ∧ Hid (wr.heap[lb]? = some (lxC s st p start wd lp rv iv) ∧ (∀ j, j < D → j ≠ lb → wr.heap[j]? = w.heap[j]?) ∧ D < wr.heap.size))
  case atStart => exact ⟨0, pos, wd0, [], rfl, by omega, rfl, Lib.hid rfl, Lib.hid (fun r hr => by cases hr), hp2, HB0, HR0, HO, HS0⟩
  case round =>
    obtain ⟨i, p, wd, xs, rfl, hi, rfl, HXL, HAH, hp, HB, HR, HE, HS⟩ := hrel
    have hTr := hT.below HB.out
    by_cases hi4 : i < 4
    · have hiz : (i : Int) < 4 := by omega
      have hY : LY B lb s p start rs its wr := ⟨wd, HG.out p wd wr HS.out.1 HS.out.2.1⟩
      have hE := HE.out
      obtain ⟨m, hm⟩ : ∃ m, 4 - i = m + 1 := ⟨3 - i, by omega⟩
      have hm2 : 4 - (i + 1) = m := by omega
      rw [hm, hexs] at hE
      by_cases hlt : p < s.size
      · obtain ⟨R, hR⟩ : ∃ R, rAt s p = R := ⟨_, rfl⟩
        obtain ⟨K, hK⟩ : ∃ K, kAt s p = K := ⟨_, rfl⟩
        have hok := rAt_ok s p
        have hk := kAt_pos s p hlt
        rw [if_pos hlt, hR, hK] at hE
        rw [hR] at hok
        rw [hK] at hk
        have HN := Lib.hid (nextYK_at B lb p start s rs its wr hY hs hlt hTr R K hR hK)
        have hm1 : ((R : Int) == -1) = false := by rw [beq_eq_false_iff_ne]; omega
        cases hh : hexB R with
        | true =>
          have HZ := Lib.hid (fun w => z_hex R w hok true hh)
          have HE2 : Hid (hexs s m (p + K) (hexN (xs ++ [R])) = o) := Lib.hid (by
            rw [hexN_snoc]
            unfold hexB at hh
            cases hv : hexR R with
            | none => rw [hv] at hh; cases hh
            | some v => rw [hv] at hE; exact hE)
          have HA2 : Hid (AllHex (xs ++ [R])) := Lib.hid (fun r hr => by
            rcases List.mem_append.1 hr with h | h
            · exact HAH.out r h
            · simp at h; subst h; exact hh)
          clear hE hR hK hok hY hTr hh
          go_wp2_with (go_at_call 140; (with_reducible refine HN.out.mono ?_); rintro e w1 ⟨⟨rfl, hx, hb1⟩, hk1, st', p0, w0, lp', rv', iv', ha1, ha2⟩; obtain ⟨rfl, rfl, rfl, rfl⟩ := lxC_inj (HS.out.1.symm.trans ha1); have r1 : Row4 D xs w1 := (hk1.2 D HS.out.2.2 (by omega)).trans HR.out; obtain ⟨cD, fD⟩ := r1.cell hi4 HXL.out; have HX1 : Hid (w1.heap[lb]? = _) := Lib.hid ha2; have HK1 : Hid (∀ j, j < D → j ≠ lb → w1.heap[j]? = w.heap[j]?) := Lib.hid (fun j hj hn => (hk1.2 j (Nat.lt_trans hj HS.out.2.2) hn).trans (HS.out.2.1 j hj hn)); have HD1 : Hid (D < w1.heap.size) := Lib.hid (Nat.lt_of_lt_of_le HS.out.2.2 hk1.1); have HB1 := Lib.hid (HB.out.trans hb1); have HR1 := Lib.hid r1; clear hx hb1 hk1 ha1 ha2 r1; obtain ⟨W2, hW2⟩ : ∃ W2, w1.setCell ⟨D, i, none⟩ (.int .i32 (R : Int)) = W2 := ⟨_, rfl⟩; have e2 : W2.cell? ⟨D, i, none⟩ = some (.int .i32 (R : Int)) := (by rw [← hW2]; exact World.cell?_setCell_same' w1 ⟨D, i, none⟩ _ (by simp [cD])); dsimp only)
          have HX2 : Hid (W2.heap[lb]? = some (lxC s st (p + K) start K lp rv iv)) := Lib.hid (by rw [← hW2]; exact (Below.heap_setCell _ _ _ _ (by show lb ≠ D; omega)).trans HX1.out)
          have HK2 : Hid (∀ j, j < D → j ≠ lb → W2.heap[j]? = w.heap[j]?) := Lib.hid (fun j hj hn => by rw [← hW2]; exact (Below.heap_setCell _ _ _ _ (by show j ≠ D; omega)).trans (HK1.out j hj hn))
          have HD2 : Hid (D < W2.heap.size) := Lib.hid (by rw [← hW2]; simpa [World.setCell] using HD1.out)
          have HB2 : Hid (Below B w W2) := Lib.hid (by rw [← hW2]; exact HB1.out.setCell (p := ⟨D, i, none⟩) hBD _)
          have HR2 : Hid (Row4 D (xs ++ [R]) W2) := Lib.hid (by rw [← hW2, ← HXL.out]; exact HR1.out.store (by rw [HXL.out]; exact hi4) R)
          go_wp2_with (go_at_call 117; (with_reducible refine (HZ.out _).mono ?_); rintro e w3 ⟨rfl, hb3⟩; dsimp only)
          have HX3 : Hid (w3.heap[lb]? = _) := Lib.hid ((hb3.block lb (Nat.lt_trans hlD HD2.out)).trans HX2.out)
          have HK3 : Hid (∀ j, j < D → j ≠ lb → w3.heap[j]? = w.heap[j]?) := Lib.hid (fun j hj hn => (hb3.block j (Nat.lt_trans hj HD2.out)).trans (HK2.out j hj hn))
          have HD3 : Hid (D < w3.heap.size) := Lib.hid (Nat.lt_of_lt_of_le HD2.out hb3.size)
          have HB3 : Hid (Below B w w3) := Lib.hid (HB2.out.trans (hb3.mono (Nat.le_of_lt (Nat.lt_of_le_of_lt hBD HD2.out))))
          have HR3 : Hid (Row4 D (xs ++ [R]) w3) := Lib.hid ((hb3.block D HD2.out).trans HR2.out)
          clear hb3 e2 cD fD hW2
          go_wp2
          go_roundg (4 - (i + 1))
          case measure => omega
          case rel => exact ⟨i + 1, p + K, K, xs ++ [R], by go_num, by omega, rfl, Lib.hid (by simp [HXL.out]), HA2, hk.2, HB3, HR3, Lib.hid (by rw [hm2]; exact HE2.out), Lib.hid ⟨HX3.out, HK3.out, HD3.out⟩⟩
        | false =>
          have hon : none = o := by
            unfold hexB at hh
            cases hv : hexR R with
            | none => rw [hv] at hE; exact hE
            | some v => rw [hv] at hh; cases hh
          subst hon
          unfold ScanPost
          have HZ := Lib.hid (fun w => z_hex R w hok false hh)
          have HNE := Lib.hid (fun w => newErr_any litMsg w)
          clear hE hR hK hok hY hTr hh
          go_wp2_with (go_at_call 140; (with_reducible refine HN.out.mono ?_); rintro e w1 ⟨⟨rfl, hx, hb1⟩, hk1, st', p0, w0, lp', rv', iv', ha1, ha2⟩; obtain ⟨rfl, rfl, rfl, rfl⟩ := lxC_inj (HS.out.1.symm.trans ha1); have r1 : Row4 D xs w1 := (hk1.2 D HS.out.2.2 (by omega)).trans HR.out; obtain ⟨cD, fD⟩ := r1.cell hi4 HXL.out; have HX1 : Hid (w1.heap[lb]? = _) := Lib.hid ha2; have HK1 : Hid (∀ j, j < D → j ≠ lb → w1.heap[j]? = w.heap[j]?) := Lib.hid (fun j hj hn => (hk1.2 j (Nat.lt_trans hj HS.out.2.2) hn).trans (HS.out.2.1 j hj hn)); have HD1 : Hid (D < w1.heap.size) := Lib.hid (Nat.lt_of_lt_of_le HS.out.2.2 hk1.1); have HB1 := Lib.hid (HB.out.trans hb1); have HR1 := Lib.hid r1; clear hx hb1 hk1 ha1 ha2 r1; obtain ⟨W2, hW2⟩ : ∃ W2, w1.setCell ⟨D, i, none⟩ (.int .i32 (R : Int)) = W2 := ⟨_, rfl⟩; have e2 : W2.cell? ⟨D, i, none⟩ = some (.int .i32 (R : Int)) := (by rw [← hW2]; exact World.cell?_setCell_same' w1 ⟨D, i, none⟩ _ (by simp [cD])); dsimp only)
          have HX2 : Hid (W2.heap[lb]? = some (lxC s st (p + K) start K lp rv iv)) := Lib.hid (by rw [← hW2]; exact (Below.heap_setCell _ _ _ _ (by show lb ≠ D; omega)).trans HX1.out)
          have HK2 : Hid (∀ j, j < D → j ≠ lb → W2.heap[j]? = w.heap[j]?) := Lib.hid (fun j hj hn => by rw [← hW2]; exact (Below.heap_setCell _ _ _ _ (by show j ≠ D; omega)).trans (HK1.out j hj hn))
          have HD2 : Hid (D < W2.heap.size) := Lib.hid (by rw [← hW2]; simpa [World.setCell] using HD1.out)
          have HB2 : Hid (Below B w W2) := Lib.hid (by rw [← hW2]; exact HB1.out.setCell (p := ⟨D, i, none⟩) hBD _)
          go_wp2_with (go_at_call 117; (with_reducible refine (HZ.out _).mono ?_); rintro e w3 ⟨rfl, hb3⟩; dsimp only)
          have HXL3 := Lib.hid ((hb3.block lb (Nat.lt_trans hlD HD2.out)).trans HX2.out)
          have HKL : Hid (∀ j, j < D → j ≠ lb → w3.heap[j]? = w.heap[j]?) := Lib.hid (fun j hj hn => (hb3.block j (Nat.lt_trans hj HD2.out)).trans (HK2.out j hj hn))
          have HDL : Hid (D < w3.heap.size) := Lib.hid (Nat.lt_of_lt_of_le HD2.out hb3.size)
          have HBL : Hid (Below B w w3) := Lib.hid (HB2.out.trans (hb3.mono (Nat.le_of_lt (Nat.lt_of_le_of_lt hBD HD2.out))))
          clear hb3 e2 cD fD hW2
          go_wp2_with (go_at_call 106; (with_reducible refine (HNE.out _).mono ?_); rintro e w4 ⟨N, rfl, hc4, hb4⟩; dsimp only)
          have HX4 := Lib.hid ((hb4.block lb (Nat.lt_trans hlD HDL.out)).trans HXL3.out)
          have HK4 : Hid (∀ j, j < D → j ≠ lb → w4.heap[j]? = w.heap[j]?) := Lib.hid (fun j hj hn => (hb4.block j (Nat.lt_trans hj HDL.out)).trans (HKL.out j hj hn))
          have HB4 : Hid (Below B w w4) := Lib.hid (HBL.out.trans (hb4.mono (Nat.le_of_lt (Nat.lt_of_le_of_lt hBD HDL.out))))
          have HC4 := Lib.hid hc4
          clear hb4 hc4
          go_wp2
          go_ret
          exact ⟨N, _, rfl, HC4.out, ⟨_, HG.out _ _ w4 HX4.out HK4.out⟩, HB4.out⟩
      · rw [if_neg hlt] at hE
        subst hE
        unfold ScanPost
        have HN := Lib.hid (nextYK_end B lb p start s rs its wr hY hs hlt hp)
        have HNE := Lib.hid (fun w => newErr_any litMsg w)
        clear hY hTr
        go_wp2_with (go_at_call 140; (with_reducible refine HN.out.mono ?_); rintro e w1 ⟨⟨rfl, hx, hb1⟩, hk1, st', p0, w0, lp', rv', iv', ha1, ha2⟩; obtain ⟨rfl, rfl, rfl, rfl⟩ := lxC_inj (HS.out.1.symm.trans ha1); have r1 : Row4 D xs w1 := (hk1.2 D HS.out.2.2 (by omega)).trans HR.out; obtain ⟨cD, fD⟩ := r1.cell hi4 HXL.out; have HX1 : Hid (w1.heap[lb]? = _) := Lib.hid ha2; have HK1 : Hid (∀ j, j < D → j ≠ lb → w1.heap[j]? = w.heap[j]?) := Lib.hid (fun j hj hn => (hk1.2 j (Nat.lt_trans hj HS.out.2.2) hn).trans (HS.out.2.1 j hj hn)); have HD1 : Hid (D < w1.heap.size) := Lib.hid (Nat.lt_of_lt_of_le HS.out.2.2 hk1.1); have HB1 := Lib.hid (HB.out.trans hb1); have HR1 := Lib.hid r1; clear hx hb1 hk1 ha1 ha2 r1; obtain ⟨W2, hW2⟩ : ∃ W2, w1.setCell ⟨D, i, none⟩ (.int .i32 (-1)) = W2 := ⟨_, rfl⟩; have e2 : W2.cell? ⟨D, i, none⟩ = some (.int .i32 (-1)) := (by rw [← hW2]; exact World.cell?_setCell_same' w1 ⟨D, i, none⟩ _ (by simp [cD])); dsimp only)
        have HX2 : Hid (W2.heap[lb]? = some (lxC s st p start 0 lp rv iv)) := Lib.hid (by rw [← hW2]; exact (Below.heap_setCell _ _ _ _ (by show lb ≠ D; omega)).trans HX1.out)
        have HK2 : Hid (∀ j, j < D → j ≠ lb → W2.heap[j]? = w.heap[j]?) := Lib.hid (fun j hj hn => by rw [← hW2]; exact (Below.heap_setCell _ _ _ _ (by show j ≠ D; omega)).trans (HK1.out j hj hn))
        have HD2 : Hid (D < W2.heap.size) := Lib.hid (by rw [← hW2]; simpa [World.setCell] using HD1.out)
        have HB2 : Hid (Below B w W2) := Lib.hid (by rw [← hW2]; exact HB1.out.setCell (p := ⟨D, i, none⟩) hBD _)
        have HXL3 := HX2
        have HKL := HK2
        have HDL := HD2
        have HBL := HB2
        go_wp2_with (go_at_call 106; (with_reducible refine (HNE.out _).mono ?_); rintro e w4 ⟨N, rfl, hc4, hb4⟩; dsimp only)
        have HX4 := Lib.hid ((hb4.block lb (Nat.lt_trans hlD HDL.out)).trans HXL3.out)
        have HK4 : Hid (∀ j, j < D → j ≠ lb → w4.heap[j]? = w.heap[j]?) := Lib.hid (fun j hj hn => (hb4.block j (Nat.lt_trans hj HDL.out)).trans (HKL.out j hj hn))
        have HB4 : Hid (Below B w w4) := Lib.hid (HBL.out.trans (hb4.mono (Nat.le_of_lt (Nat.lt_of_le_of_lt hBD HDL.out))))
        have HC4 := Lib.hid hc4
        clear hb4 hc4
        go_wp2
        go_ret
        exact ⟨N, _, rfl, HC4.out, ⟨_, HG.out _ _ w4 HX4.out HK4.out⟩, HB4.out⟩
    · have hi5 : i = 4 := by omega
      subst hi5
      have hY : LY B lb s p start rs its wr := ⟨wd, HG.out p wd wr HS.out.1 HS.out.2.1⟩
      have hE := HE.out
      rw [show 4 - 4 = 0 from rfl, hexs] at hE
      subst hE
      unfold ScanPost
      obtain ⟨e1, e2, e3⟩ := text_hex xs HAH.out
      obtain ⟨T, hT4⟩ : ∃ T, textOf xs = T := ⟨_, rfl⟩
      have hcv := row4_conv HR.out HXL.out
      rw [hT4] at hcv e1 e2 e3
      have hTs : T.size = 4 := by rw [Lib.size_eq, e1, List.length_map, HXL.out]
      have HPI := Lib.hid (fun w => pi16 T (by omega) (by omega) e2 w ((hexN xs : Nat) : Int) (by rw [e3]))
      have hlt5 := hexF_lt 4 T.data.toList (by rw [← Lib.size_eq]; omega)
      rw [e3] at hlt5
      have hlt6 : hexN xs < 65536 := hlt5
      have hw32 : IntKind.i32.wrap ((hexN xs : Nat) : Int) = ((hexN xs : Nat) : Int) := by rw [IntKind.wrap_i32]; omega
      have HY := Lib.hid hY
      have HAP := Lib.hid (fun w' (h : LY B lb s p start rs its w') => appendY B lb p start (hexN xs) s rs its w' h hn)
      clear e1 e2 e3 hT4 hY hTr hlt5
      go_wp2_with (go_at_call 164; (with_reducible refine (HPI.out _).mono ?_); rintro e w1 ⟨rfl, hb1⟩; dsimp only)
      have HY1 := Lib.hid (HY.out.below hb1)
      have HB1 : Hid (Below B w w1) := Lib.hid (HB.out.trans (hb1.mono HY.out.lt))
      clear hb1
      go_wp2_with (go_at_call 152; (with_reducible refine (HAP.out _ HY1.out).mono ?_); rintro e w2 ⟨rfl, hy2, hb2⟩; dsimp only)
      have HY2 := Lib.hid hy2
      have HB2 := Lib.hid (HB1.out.trans hb2)
      clear hy2 hb2
      go_wp2
      go_ret
      exact ⟨rfl, HY2.out, HB2.out⟩
end Go.Proofs.YtgmhigjhooihdaaGreatDoor

set_option linter.unusedVariables false
namespace Go.Proofs.YtgmhigjhooihdaaGreatDoor
open Go.RowKit Plain

set_option maxHeartbeats 8000000 in
set_option maxRecDepth 100000 in
theorem esc_any (B lb pos start : Nat) (s : ByteArray) (rs : List Nat) (its : List LI) (w : World) (h : LY B lb s pos start rs its w) (hs : s.size ≤ 2147483647) (hp2 : pos ≤ s.size) (hT : TabsL B w) (hn : rs.length ≤ 2147483647) (o : Option (Nat × Nat)) (ho : scanE s pos = o) (msg : ByteArray) (hm : badEsc s pos = msg) :
    Calls Tryz.prog 154 #[.pointer (some ⟨lb, 0, none⟩)] w (ScanPost B lb s start rs its o msg w) := by
  have HB0 : Hid (Below B w w) := Lib.hid (Below.refl B w)
  unfold scanE at ho
  unfold badEsc at hm
  by_cases hlt : pos < s.size
  · rw [if_pos hlt] at ho hm
    obtain ⟨R, hR⟩ : ∃ R, rAt s pos = R := ⟨_, rfl⟩
    obtain ⟨K, hK⟩ : ∃ K, kAt s pos = K := ⟨_, rfl⟩
    have hok := rAt_ok s pos
    have hk := kAt_pos s pos hlt
    rw [hR] at hok
    rw [hK] at hk
    have HN := Lib.hid (nextY_at B lb pos start s rs its w h hs hlt hT R K hR hK)
    rw [hR, hK] at ho
    subst hm
    cases hc : escC R with
    | true =>
      rw [hc, if_pos rfl] at ho
      subst ho
      unfold ScanPost
      have T1 := Lib.hid (fun w => isEscC_at R w hok true hc)
      have T2 := Lib.hid (fun w => decEsc_at R w)
      have AP := Lib.hid (fun w' (h : LY B lb s (pos + K) start rs its w') => appendY B lb (pos + K) start (decEsc R) s rs its w' h hn)
      clear hR hK hok hc h hT
      go_enter Tryz.func154, Tryz.ntmps154
      go_wp2_with (go_at_call 140; (with_reducible refine HN.out.mono ?_); rintro e v1 ⟨rfl, hx, hb⟩; dsimp only)
      have HX1 := Lib.hid hx
      have HB1 := Lib.hid (HB0.out.trans hb)
      clear hx hb
      have HY1 : Hid (LY B lb s (pos + K) start rs its v1) := Lib.hid ⟨_, HX1.out⟩
      go_wp2_with (go_at_call 158; (with_reducible refine (T1.out _).mono ?_); rintro e v2 ⟨rfl, hb⟩; dsimp only)
      have HY2 := Lib.hid (HY1.out.below hb)
      have HB2 : Hid (Below B w v2) := Lib.hid (HB1.out.trans (hb.mono HY1.out.lt))
      clear hb
      go_wp2_with (go_at_call 159; (with_reducible refine (T2.out _).mono ?_); rintro e v3 ⟨rfl, rfl⟩; dsimp only)
      go_wp2_with (go_at_call 152; (with_reducible refine (AP.out _ HY2.out).mono ?_); rintro e v4 ⟨rfl, hy, hb⟩; dsimp only)
      have HY4 := Lib.hid hy
      have HB4 := Lib.hid (HB2.out.trans hb)
      clear hy hb
      go_wp2
      go_ret
      exact ⟨rfl, HY4.out, HB4.out⟩
    | false =>
      rw [hc, if_neg (by decide)] at ho
      have T1 := Lib.hid (fun w => isEscC_at R w hok false hc)
      by_cases hu : R = 117
      · rw [if_pos hu] at ho
        have T2 := Lib.hid (fun w => atLit_at R w true (by rw [hu]; rfl))
        have LT := Lib.hid (fun w' (h : LY B lb s (pos + K) start rs its w') (hT : TabsL B w') => lit_any B lb (pos + K) start s rs its w' h hs hk.2 hT hn o ho)
        have HT := Lib.hid hT
        clear hR hK hok hc h hT ho hu
        go_enter Tryz.func154, Tryz.ntmps154
        go_wp2_with (go_at_call 140; (with_reducible refine HN.out.mono ?_); rintro e v5 ⟨rfl, hx, hb⟩; dsimp only)
        have HX5 := Lib.hid hx
        have HB5 := Lib.hid (HB0.out.trans hb)
        clear hx hb
        have HY5 : Hid (LY B lb s (pos + K) start rs its v5) := Lib.hid ⟨_, HX5.out⟩
        go_wp2_with (go_at_call 158; (with_reducible refine (T1.out _).mono ?_); rintro e v6 ⟨rfl, hb⟩; dsimp only)
        have HY6 := Lib.hid (HY5.out.below hb)
        have HB6 : Hid (Below B w v6) := Lib.hid (HB5.out.trans (hb.mono HY5.out.lt))
        clear hb
        go_wp2_with (go_at_call 160; (with_reducible refine (T2.out _).mono ?_); rintro e v7 ⟨rfl, rfl⟩; dsimp only)
        cases o with
        | some x =>
          go_wp2_with (go_at_call 161; (with_reducible refine (LT.out _ HY6.out (HT.out.below HB6.out)).mono ?_); rintro e v8 ⟨rfl, hy, hb⟩; dsimp only)
          have HYz := Lib.hid hy
          have HBz := Lib.hid (HB6.out.trans hb)
          clear hy hb
          go_wp2
          go_ret
          exact ⟨rfl, HYz.out, HBz.out⟩
        | none =>
          go_wp2_with (go_at_call 161; (with_reducible refine (LT.out _ HY6.out (HT.out.below HB6.out)).mono ?_); rintro e v8 ⟨N, q, rfl, hc, hy, hb⟩; dsimp only)
          have HCz := Lib.hid hc
          have HYz := Lib.hid hy
          have HBz := Lib.hid (HB6.out.trans hb)
          clear hy hb hc
          go_wp2
          go_ret
          exact ⟨N, q, rfl, HCz.out, HYz.out, HBz.out⟩
      · rw [if_neg hu] at ho
        subst ho
        unfold ScanPost
        have T2 := Lib.hid (fun w => atLit_at R w false (by rw [beq_eq_false_iff_ne]; exact hu))
        have T3 := Lib.hid (fun w => isEOF_at R w)
        have AP := Lib.hid (fun w' (h : LY B lb s (pos + K) start rs its w') => appendY B lb (pos + K) start R s rs its w' h hn)
        clear hR hK hok hc h hT hu
        go_enter Tryz.func154, Tryz.ntmps154
        go_wp2_with (go_at_call 140; (with_reducible refine HN.out.mono ?_); rintro e v9 ⟨rfl, hx, hb⟩; dsimp only)
        have HX9 := Lib.hid hx
        have HB9 := Lib.hid (HB0.out.trans hb)
        clear hx hb
        have HY9 : Hid (LY B lb s (pos + K) start rs its v9) := Lib.hid ⟨_, HX9.out⟩
        go_wp2_with (go_at_call 158; (with_reducible refine (T1.out _).mono ?_); rintro e v10 ⟨rfl, hb⟩; dsimp only)
        have HY10 := Lib.hid (HY9.out.below hb)
        have HB10 : Hid (Below B w v10) := Lib.hid (HB9.out.trans (hb.mono HY9.out.lt))
        clear hb
        go_wp2_with (go_at_call 160; (with_reducible refine (T2.out _).mono ?_); rintro e v11 ⟨rfl, rfl⟩; dsimp only)
        go_wp2_with (go_at_call 141; (with_reducible refine (T3.out _).mono ?_); rintro e v12 ⟨rfl, rfl⟩; dsimp only)
        go_wp2_with (go_at_call 152; (with_reducible refine (AP.out _ HY10.out).mono ?_); rintro e v13 ⟨rfl, hy, hb⟩; dsimp only)
        have HY13 := Lib.hid hy
        have HB13 := Lib.hid (HB10.out.trans hb)
        clear hy hb
        go_wp2
        go_ret
        exact ⟨rfl, HY13.out, HB13.out⟩
  · rw [if_neg hlt] at ho hm
    subst ho
    subst hm
    unfold ScanPost
    have HN := Lib.hid (nextY_end B lb pos start s rs its w h hs hlt hp2)
    have T1 := Lib.hid (fun w => isEscC_eof w)
    have T2 := Lib.hid (fun w => atLit_eof w)
    have T3 := Lib.hid (fun w => isEOF_eof w)
    have HE := Lib.hid (fun w => newErr_any ⟨#[112, 114, 101, 109, 97, 116, 117, 114, 101, 32, 69, 79, 70]⟩ w)
    clear h hT
    go_enter Tryz.func154, Tryz.ntmps154
    go_wp2_with (go_at_call 140; (with_reducible refine HN.out.mono ?_); rintro e v14 ⟨rfl, hx, hb⟩; dsimp only)
    have HX14 := Lib.hid hx
    have HB14 := Lib.hid (HB0.out.trans hb)
    clear hx hb
    have HY14 : Hid (LY B lb s pos start rs its v14) := Lib.hid ⟨_, HX14.out⟩
    go_wp2_with (go_at_call 158; (with_reducible refine (T1.out _).mono ?_); rintro e v15 ⟨rfl, rfl⟩; dsimp only)
    go_wp2_with (go_at_call 160; (with_reducible refine (T2.out _).mono ?_); rintro e v16 ⟨rfl, rfl⟩; dsimp only)
    go_wp2_with (go_at_call 141; (with_reducible refine (T3.out _).mono ?_); rintro e v17 ⟨rfl, rfl⟩; dsimp only)
    go_wp2_with (go_at_call 106; (with_reducible refine (HE.out _).mono ?_); rintro e vz ⟨N, rfl, hc, hb⟩; dsimp only)
    have HYz := Lib.hid (HY14.out.below hb)
    have HBz : Hid (Below B w vz) := Lib.hid (HB14.out.trans (hb.mono HY14.out.lt))
    have HCz := Lib.hid hc
    clear hb hc
    go_wp2
    go_ret
    exact ⟨N, _, rfl, HCz.out, HYz.out, HBz.out⟩
end Go.Proofs.YtgmhigjhooihdaaGreatDoor

set_option linter.unusedVariables false
namespace Go.Proofs.YtgmhigjhooihdaaGreatDoor
open Go.RowKit Plain

/-- a state as a function's value -/
def nxV : NX → Value
  | .before => .func (.func 129) #[] #[]
  | .comment => .func (.func 146) #[] #[]
  | .key => .func (.func 149) #[] #[]
  | .bval => .func (.func 157) #[] #[]
  | .val => .func (.func 163) #[] #[]
def StPost (B lb : Nat) (s : ByteArray) (its : List LI) (r : List LI × Option (NX × Nat)) (w : World) (e : Ending) (w' : World) : Prop :=
  (match r.2 with
    | some x => e = .returned (nxV x.1) ∧ (∃ st, LY B lb s x.2 st [] (its ++ r.1) w' ∧ (x.1 = .comment ∨ st = x.2))
    | none => e = .returned .nilFunc ∧ ∃ q st rs, LY B lb s q st rs (its ++ r.1) w') ∧ Below B w w'
theorem LY.nil {B lb pos start : Nat} {s : ByteArray} {rs : List Nat} {its : List LI} {w : World} (h : LY B lb s pos start rs its w) : LY B lb s pos start rs (its ++ []) w := by rw [List.append_nil]; exact h
theorem emitL (B lb pos start k : Nat) (ki : Int) (hki : (k : Int) = ki) (s : ByteArray) (rs : List Nat) (its : List LI) (w : World) (h : LY B lb s pos start rs its w) (hn : its.length ≤ 1000000) :
    Calls Tryz.prog 142 #[.pointer (some ⟨lb, 0, none⟩), .int .i64 ki] w (YPost B lb s pos pos [] (its ++ [⟨k, start, textOf rs⟩]) (.returned (.tuple #[])) w) := by
  subst hki
  exact emitY B lb pos start k s rs its w h hn
theorem textOf_nil : textOf [] = emptyB := rfl
theorem LY.len {B lb pos start : Nat} {s : ByteArray} {rs : List Nat} {its : List LI} {w : World} (h : LY B lb s pos start rs its w) : ∃ g cap, w.cell? ⟨lb, 6, none⟩ = some (.slice (some ⟨g, 0, none⟩) rs.length cap) := by
  obtain ⟨wd, ⟨⟨st, lp, rv, iv, h1, _, _, ⟨g, cap, rfl⟩⟩, _⟩⟩ := h
  exact ⟨g, cap, (lx_cells h1).2.2.2.2.1⟩
set_option maxHeartbeats 8000000 in
set_option maxRecDepth 100000 in
theorem before_any (B lb pos start : Nat) (s : ByteArray) (its : List LI) (w : World) (h : LY B lb s pos start [] its w) (hs : s.size ≤ 2147483647) (hp2 : pos ≤ s.size) (hi : its.length ≤ 900000) (hT : TabsL B w) (hst : start = pos) (r : List LI × Option (NX × Nat)) (hr : lexS s .before pos = r) :
    Calls Tryz.prog 129 #[.pointer (some ⟨lb, 0, none⟩)] w (StPost B lb s its r w) := by
  subst hst
  have HB0 : Hid (Below B w w) := Lib.hid (Below.refl B w)
  unfold lexS at hr
  dsimp only at hr
  by_cases hlt : start < s.size
  · rw [if_pos hlt] at hr
    obtain ⟨R, hR⟩ : ∃ R, rAt s start = R := ⟨_, rfl⟩
    obtain ⟨K, hK⟩ : ∃ K, kAt s start = K := ⟨_, rfl⟩
    have hok := rAt_ok s start
    have hk := kAt_pos s start hlt
    rw [hR] at hok
    rw [hK] at hk
    have HN := Lib.hid (nextY_at B lb start start s [] its w h hs hlt hT R K hR hK)
    rw [hR, hK] at hr
    have TE := Lib.hid (fun w => isEOF_at R w)
    have IG := Lib.hid (fun w' (h : LY B lb s (start + K) start [] its w') => ignoreY B lb (start + K) start s [] its w' h)
    cases h1 : eolR R with
    | true =>
      rw [h1, if_pos rfl] at hr
      subst hr
      unfold StPost
      have T1 := Lib.hid (fun w => isEOL_at R w true h1)
      clear hR hK hok h1 h hT
      go_enter Tryz.func129, Tryz.ntmps129
      go_wp2_with (go_at_call 140; (with_reducible refine HN.out.mono ?_); rintro e v1 ⟨rfl, hx, hb⟩; dsimp only)
      have HX1 := Lib.hid hx
      have HB1 := Lib.hid (HB0.out.trans hb)
      clear hx hb
      have HY1 : Hid (LY B lb s (start + K) start [] its v1) := Lib.hid ⟨_, HX1.out⟩
      go_wp2_with (go_at_call 141; (with_reducible refine (TE.out _).mono ?_); rintro e v2 ⟨rfl, rfl⟩; dsimp only)
      go_wp2_with (go_at_call 143; (with_reducible refine (T1.out _).mono ?_); rintro e v3 ⟨rfl, rfl⟩; dsimp only)
      go_wp2_with (go_at_call 144; (with_reducible refine (IG.out _ HY1.out).mono ?_); rintro e v4 ⟨rfl, hy, hb⟩; dsimp only)
      have HY4 := Lib.hid hy
      have HB4 := Lib.hid (HB1.out.trans hb)
      clear hy hb
      go_wp2
      go_ret
      exact ⟨⟨rfl, _, HY4.out.nil, .inr rfl⟩, HB4.out⟩
    | false =>
      rw [h1, if_neg (by decide)] at hr
      have T1 := Lib.hid (fun w => isEOL_at R w false h1)
      by_cases h2 : R = 35 ∨ R = 33
      · rw [if_pos h2] at hr
        subst hr
        unfold StPost
        have T2 := Lib.hid (fun w => isCom_at R w true (by simp; exact h2))
        clear hR hK hok h1 h hT h2
        go_enter Tryz.func129, Tryz.ntmps129
        go_wp2_with (go_at_call 140; (with_reducible refine HN.out.mono ?_); rintro e v5 ⟨rfl, hx, hb⟩; dsimp only)
        have HX5 := Lib.hid hx
        have HB5 := Lib.hid (HB0.out.trans hb)
        clear hx hb
        have HY5 : Hid (LY B lb s (start + K) start [] its v5) := Lib.hid ⟨_, HX5.out⟩
        go_wp2_with (go_at_call 141; (with_reducible refine (TE.out _).mono ?_); rintro e v6 ⟨rfl, rfl⟩; dsimp only)
        go_wp2_with (go_at_call 143; (with_reducible refine (T1.out _).mono ?_); rintro e v7 ⟨rfl, rfl⟩; dsimp only)
        go_wp2_with (go_at_call 145; (with_reducible refine (T2.out _).mono ?_); rintro e v8 ⟨rfl, rfl⟩; dsimp only)
        go_wp2
        go_ret
        exact ⟨⟨rfl, _, HY5.out.nil, .inl (by trivial)⟩, HB5.out⟩
      · rw [if_neg h2] at hr
        have T2 := Lib.hid (fun w => isCom_at R w false (by simp; omega))
        cases h3 : wsR R with
        | true =>
          rw [h3, if_pos rfl] at hr
          subst hr
          unfold StPost
          have T3 := Lib.hid (fun w => isWs_at R w hok true h3)
          clear hR hK hok h1 h hT h2 h3
          go_enter Tryz.func129, Tryz.ntmps129
          go_wp2_with (go_at_call 140; (with_reducible refine HN.out.mono ?_); rintro e v9 ⟨rfl, hx, hb⟩; dsimp only)
          have HX9 := Lib.hid hx
          have HB9 := Lib.hid (HB0.out.trans hb)
          clear hx hb
          have HY9 : Hid (LY B lb s (start + K) start [] its v9) := Lib.hid ⟨_, HX9.out⟩
          go_wp2_with (go_at_call 141; (with_reducible refine (TE.out _).mono ?_); rintro e v10 ⟨rfl, rfl⟩; dsimp only)
          go_wp2_with (go_at_call 143; (with_reducible refine (T1.out _).mono ?_); rintro e v11 ⟨rfl, rfl⟩; dsimp only)
          go_wp2_with (go_at_call 145; (with_reducible refine (T2.out _).mono ?_); rintro e v12 ⟨rfl, rfl⟩; dsimp only)
          go_wp2_with (go_at_call 147; (with_reducible refine (T3.out _).mono ?_); rintro e v13 ⟨rfl, hb⟩; dsimp only)
          have HY13 := Lib.hid (HY9.out.below hb)
          have HB13 : Hid (Below B w v13) := Lib.hid (HB9.out.trans (hb.mono HY9.out.lt))
          clear hb
          go_wp2_with (go_at_call 144; (with_reducible refine (IG.out _ HY13.out).mono ?_); rintro e v14 ⟨rfl, hy, hb⟩; dsimp only)
          have HY14 := Lib.hid hy
          have HB14 := Lib.hid (HB13.out.trans hb)
          clear hy hb
          go_wp2
          go_ret
          exact ⟨⟨rfl, _, HY14.out.nil, .inr rfl⟩, HB14.out⟩
        | false =>
          rw [h3, if_neg (by decide)] at hr
          subst hr
          unfold StPost
          have T3 := Lib.hid (fun w => isWs_at R w hok false h3)
          have BK := Lib.hid (fun w' (h : LX B lb s (start + K) start K [] its w') => backupY B lb start K start s [] its w' h (by omega))
          clear hR hK hok h1 h hT h2 h3
          go_enter Tryz.func129, Tryz.ntmps129
          go_wp2_with (go_at_call 140; (with_reducible refine HN.out.mono ?_); rintro e v15 ⟨rfl, hx, hb⟩; dsimp only)
          have HX15 := Lib.hid hx
          have HB15 := Lib.hid (HB0.out.trans hb)
          clear hx hb
          go_wp2_with (go_at_call 141; (with_reducible refine (TE.out _).mono ?_); rintro e v16 ⟨rfl, rfl⟩; dsimp only)
          go_wp2_with (go_at_call 143; (with_reducible refine (T1.out _).mono ?_); rintro e v17 ⟨rfl, rfl⟩; dsimp only)
          go_wp2_with (go_at_call 145; (with_reducible refine (T2.out _).mono ?_); rintro e v18 ⟨rfl, rfl⟩; dsimp only)
          go_wp2_with (go_at_call 147; (with_reducible refine (T3.out _).mono ?_); rintro e v19 ⟨rfl, hb⟩; dsimp only)
          have HX19 := Lib.hid (HX15.out.below hb)
          have HB19 : Hid (Below B w v19) := Lib.hid (HB15.out.trans (hb.mono (Nat.le_trans HX15.out.lo (Nat.le_of_lt HX15.out.lt))))
          clear hb
          go_wp2_with (go_at_call 148; (with_reducible refine (BK.out _ HX19.out).mono ?_); rintro e v20 ⟨rfl, hy, hb⟩; dsimp only)
          have HY20 := Lib.hid hy
          have HB20 := Lib.hid (HB19.out.trans hb)
          clear hy hb
          go_wp2
          go_ret
          exact ⟨⟨rfl, _, HY20.out.nil, .inr rfl⟩, HB20.out⟩
  · rw [if_neg hlt] at hr
    subst hr
    unfold StPost
    have HN := Lib.hid (nextY_end B lb start start s [] its w h hs hlt hp2)
    have TE := Lib.hid (fun w => isEOF_eof w)
    have EM := Lib.hid (fun w' (h : LY B lb s start start [] its w') => emitL B lb start start 1 1 rfl s [] its w' h (by omega))
    clear h hT
    go_enter Tryz.func129, Tryz.ntmps129
    go_wp2_with (go_at_call 140; (with_reducible refine HN.out.mono ?_); rintro e v21 ⟨rfl, hx, hb⟩; dsimp only)
    have HX21 := Lib.hid hx
    have HB21 := Lib.hid (HB0.out.trans hb)
    clear hx hb
    have HY21 : Hid (LY B lb s start start [] its v21) := Lib.hid ⟨_, HX21.out⟩
    go_wp2_with (go_at_call 141; (with_reducible refine (TE.out _).mono ?_); rintro e v22 ⟨rfl, rfl⟩; dsimp only)
    go_wp2_with (go_at_call 142; (with_reducible refine (EM.out _ HY21.out).mono ?_); rintro e v23 ⟨rfl, hy, hb⟩; dsimp only)
    have HY23 := Lib.hid hy
    have HB23 := Lib.hid (HB21.out.trans hb)
    clear hy hb
    go_wp2
    go_ret
    exact ⟨⟨rfl, _, _, _, HY23.out⟩, HB23.out⟩
set_option maxHeartbeats 8000000 in
set_option maxRecDepth 100000 in
theorem bval_any (B lb pos start : Nat) (s : ByteArray) (its : List LI) (w : World) (h : LY B lb s pos start [] its w) (hs : s.size ≤ 2147483647) (hp2 : pos ≤ s.size) (hi : its.length ≤ 900000) (hT : TabsL B w) (r : List LI × Option (NX × Nat)) (hr : lexS s .bval pos = r) :
    Calls Tryz.prog 157 #[.pointer (some ⟨lb, 0, none⟩)] w (StPost B lb s its r w) := by
  have HB0 : Hid (Below B w w) := Lib.hid (Below.refl B w)
  have HT := Lib.hid hT
  unfold lexS bvalP at hr
  dsimp only at hr
  have HY0 := Lib.hid h
  obtain ⟨p1, h1⟩ : ∃ p1, skipW s pos = p1 := ⟨_, rfl⟩
  have q1 := skipW_le s pos hp2
  rw [h1] at hr q1
  obtain ⟨p2, h2⟩ : ∃ p2, accS s p1 = p2 := ⟨_, rfl⟩
  have q2 := (accS_bd s p1 q1).2
  rw [h2] at hr q2
  obtain ⟨p3, h3⟩ : ∃ p3, skipW s p2 = p3 := ⟨_, rfl⟩
  rw [h3] at hr
  subst hr
  unfold StPost
  have R1 := Lib.hid (fun w' (h : LY B lb s pos start [] its w') (hT : TabsL B w') => run_ws B lb pos start p1 s [] its w' h hs hp2 hT h1)
  have R2 := Lib.hid (fun w' (h : LY B lb s p1 start [] its w') (hT : TabsL B w') => acc_any B lb p1 start p2 s [] its w' h hs q1 hT h2)
  have R3 := Lib.hid (fun w' (h : LY B lb s p2 start [] its w') (hT : TabsL B w') => run_ws B lb p2 start p3 s [] its w' h hs q2 hT h3)
  have R4 := Lib.hid (fun w' (h : LY B lb s p3 start [] its w') => ignoreY B lb p3 start s [] its w' h)
  clear h hT h1 h2 h3
  go_enter Tryz.func157, Tryz.ntmps157
  go_wp2_with (go_at_call 151; (with_reducible refine (R1.out _ HY0.out HT.out).mono ?_); rintro e v1 ⟨rfl, hy, hb⟩; dsimp only)
  have HY1 := Lib.hid hy
  have HB1 := Lib.hid (HB0.out.trans hb)
  clear hy hb
  go_wp2_with (go_at_call 162; (with_reducible refine (R2.out _ HY1.out (HT.out.below HB1.out)).mono ?_); rintro e v2 ⟨bb, rfl, hy, hb⟩; dsimp only)
  have HY2 := Lib.hid hy
  have HB2 := Lib.hid (HB1.out.trans hb)
  clear hy hb
  go_wp2_with (go_at_call 151; (with_reducible refine (R3.out _ HY2.out (HT.out.below HB2.out)).mono ?_); rintro e v3 ⟨rfl, hy, hb⟩; dsimp only)
  have HY3 := Lib.hid hy
  have HB3 := Lib.hid (HB2.out.trans hb)
  clear hy hb
  go_wp2_with (go_at_call 144; (with_reducible refine (R4.out _ HY3.out).mono ?_); rintro e v4 ⟨rfl, hy, hb⟩; dsimp only)
  have HY4 := Lib.hid hy
  have HB4 := Lib.hid (HB3.out.trans hb)
  clear hy hb
  go_wp2
  go_ret
  exact ⟨⟨rfl, _, HY4.out.nil, .inr rfl⟩, HB4.out⟩
set_option maxHeartbeats 8000000 in
set_option maxRecDepth 100000 in
theorem comment_any (B lb pos start : Nat) (s : ByteArray) (its : List LI) (w : World) (h : LY B lb s pos start [] its w) (hs : s.size ≤ 2147483647) (hp2 : pos ≤ s.size) (hi : its.length ≤ 900000) (hT : TabsL B w) (r : List LI × Option (NX × Nat)) (hr : lexS s .comment pos = r) :
    Calls Tryz.prog 146 #[.pointer (some ⟨lb, 0, none⟩)] w (StPost B lb s its r w) := by
  have HB0 : Hid (Below B w w) := Lib.hid (Below.refl B w)
  have HT := Lib.hid hT
  unfold lexS at hr
  dsimp only at hr
  have HY0 := Lib.hid h
  obtain ⟨p1, h1⟩ : ∃ p1, skipW s pos = p1 := ⟨_, rfl⟩
  have q1 := skipW_le s pos hp2
  rw [h1] at hr q1
  obtain ⟨T, hTT⟩ : ∃ T, comL s p1 [] = T := ⟨_, rfl⟩
  rw [hTT] at hr
  have R1 := Lib.hid (fun w' (h : LY B lb s pos start [] its w') (hT : TabsL B w') => run_ws B lb pos start p1 s [] its w' h hs hp2 hT h1)
  have R4 := Lib.hid (fun w' (h : LY B lb s p1 start [] its w') => ignoreY B lb p1 start s [] its w' h)
  have HTT := Lib.hid hTT
  have HRR := Lib.hid hr
  clear h hT h1 hr hTT
  go_enter Tryz.func146, Tryz.ntmps146
  go_wp2_with (go_at_call 151; (with_reducible refine (R1.out _ HY0.out HT.out).mono ?_); rintro e v1 ⟨rfl, hy, hb⟩; dsimp only)
  have HY1 := Lib.hid hy
  have HB1 := Lib.hid (HB0.out.trans hb)
  clear hy hb
  go_wp2_with (go_at_call 144; (with_reducible refine (R4.out _ HY1.out).mono ?_); rintro e v2 ⟨rfl, hy, hb⟩; dsimp only)
  have HY2 := Lib.hid hy
  have HB2 := Lib.hid (HB1.out.trans hb)
  clear hy hb
  go_wp2
  go_loopg [3] (s.size - p1 + 1) (fun g rv wr => ∃ (p : Nat) (acc : List Nat), g = s.size - p + 1 ∧ p ≤ s.size ∧ Hid (acc.length ≤ p) ∧ Hid (LY B lb s p p1 acc its wr) ∧ Hid (Below B w wr) ∧ Hid (comL s p acc = T))
  case atStart => exact ⟨p1, [], rfl, q1, Nat.zero_le _, HY2, HB2, HTT⟩
  case round =>
    obtain ⟨p, acc, rfl, hp, HA, HYL, HBL, HC⟩ := hrel
    have hTr := HT.out.below HBL.out
    have hC := HC.out
    rw [comL] at hC
    by_cases hlt : p < s.size
    · rw [dif_pos hlt] at hC
      obtain ⟨R, hR⟩ : ∃ R, rAt s p = R := ⟨_, rfl⟩
      obtain ⟨K, hK⟩ : ∃ K, kAt s p = K := ⟨_, rfl⟩
      have hk := kAt_pos s p hlt
      rw [hR, hK] at hC
      rw [hK] at hk
      have HN := Lib.hid (nextY_at B lb p p1 s acc its wr HYL.out hs hlt hTr R K hR hK)
      have TE := Lib.hid (fun w => isEOF_at R w)
      cases h1 : eolR R with
      | true =>
        rw [h1, if_pos rfl] at hC
        subst hC
        have hr := HRR.out
        dsimp only at hr
        subst hr
        unfold StPost
        have T1 := Lib.hid (fun w => isEOL_at R w true h1)
        have EM := Lib.hid (fun w' (h : LY B lb s (p + K) p1 acc its w') => emitL B lb (p + K) p1 4 4 rfl s acc its w' h (by omega))
        clear hR hK h1 hTr
        go_wp2_with (go_at_call 140; (with_reducible refine HN.out.mono ?_); rintro e v3 ⟨rfl, hx, hb⟩; dsimp only)
        have HX3 := Lib.hid hx
        have HB3 := Lib.hid (HBL.out.trans hb)
        clear hx hb
        have HY3 : Hid (LY B lb s (p + K) p1 acc its v3) := Lib.hid ⟨_, HX3.out⟩
        go_wp2_with (go_at_call 141; (with_reducible refine (TE.out _).mono ?_); rintro e v4 ⟨rfl, rfl⟩; dsimp only)
        go_wp2_with (go_at_call 143; (with_reducible refine (T1.out _).mono ?_); rintro e v5 ⟨rfl, rfl⟩; dsimp only)
        go_wp2_with (go_at_call 142; (with_reducible refine (EM.out _ HY3.out).mono ?_); rintro e v6 ⟨rfl, hy, hb⟩; dsimp only)
        have HY6 := Lib.hid hy
        have HB6 := Lib.hid (HB3.out.trans hb)
        clear hy hb
        go_wp2
        go_ret
        exact ⟨⟨rfl, _, HY6.out, .inr rfl⟩, HB6.out⟩
      | false =>
        rw [h1, if_neg (by decide)] at hC
        have HC2 := Lib.hid hC
        have T1 := Lib.hid (fun w => isEOL_at R w false h1)
        have AP := Lib.hid (fun w' (h : LY B lb s (p + K) p1 acc its w') => appendY B lb (p + K) p1 R s acc its w' h (by have := HA.out; omega))
        clear hR hK h1 hTr hC
        go_wp2_with (go_at_call 140; (with_reducible refine HN.out.mono ?_); rintro e v7 ⟨rfl, hx, hb⟩; dsimp only)
        have HX7 := Lib.hid hx
        have HB7 := Lib.hid (HBL.out.trans hb)
        clear hx hb
        have HY7 : Hid (LY B lb s (p + K) p1 acc its v7) := Lib.hid ⟨_, HX7.out⟩
        go_wp2_with (go_at_call 141; (with_reducible refine (TE.out _).mono ?_); rintro e v8 ⟨rfl, rfl⟩; dsimp only)
        go_wp2_with (go_at_call 143; (with_reducible refine (T1.out _).mono ?_); rintro e v9 ⟨rfl, rfl⟩; dsimp only)
        go_wp2_with (go_at_call 152; (with_reducible refine (AP.out _ HY7.out).mono ?_); rintro e v10 ⟨rfl, hy, hb⟩; dsimp only)
        have HY10 := Lib.hid hy
        have HB10 := Lib.hid (HB7.out.trans hb)
        clear hy hb
        go_wp2
        go_roundg (s.size - (p + K) + 1)
        case measure => omega
        case rel => exact ⟨p + K, acc ++ [R], rfl, hk.2, Lib.hid (by have := HA.out; simp; omega), HY10, HB10, HC2⟩
    · rw [dif_neg hlt] at hC
      subst hC
      have hr := HRR.out
      dsimp only at hr
      subst hr
      unfold StPost
      have HN := Lib.hid (nextY_end B lb p p1 s acc its wr HYL.out hs hlt hp)
      have TE := Lib.hid (fun w => isEOF_eof w)
      have IG := Lib.hid (fun w' (h : LY B lb s p p1 acc its w') => ignoreY B lb p p1 s acc its w' h)
      have EM := Lib.hid (fun w' (h : LY B lb s p p acc its w') => emitL B lb p p 1 1 rfl s acc its w' h (by omega))
      clear hTr
      go_wp2_with (go_at_call 140; (with_reducible refine HN.out.mono ?_); rintro e v11 ⟨rfl, hx, hb⟩; dsimp only)
      have HX11 := Lib.hid hx
      have HB11 := Lib.hid (HBL.out.trans hb)
      clear hx hb
      have HY11 : Hid (LY B lb s p p1 acc its v11) := Lib.hid ⟨_, HX11.out⟩
      go_wp2_with (go_at_call 141; (with_reducible refine (TE.out _).mono ?_); rintro e v12 ⟨rfl, rfl⟩; dsimp only)
      go_wp2_with (go_at_call 144; (with_reducible refine (IG.out _ HY11.out).mono ?_); rintro e v13 ⟨rfl, hy, hb⟩; dsimp only)
      have HY13 := Lib.hid hy
      have HB13 := Lib.hid (HB11.out.trans hb)
      clear hy hb
      go_wp2_with (go_at_call 142; (with_reducible refine (EM.out _ HY13.out).mono ?_); rintro e v14 ⟨rfl, hy, hb⟩; dsimp only)
      have HY14 := Lib.hid hy
      have HB14 := Lib.hid (HB13.out.trans hb)
      clear hy hb
      go_wp2
      go_ret
      exact ⟨⟨rfl, _, _, _, HY14.out⟩, HB14.out⟩
end Go.Proofs.YtgmhigjhooihdaaGreatDoor

set_option linter.unusedVariables false
namespace Go.Proofs.YtgmhigjhooihdaaGreatDoor
open Go.RowKit Plain

theorem errStr_any (N : Nat) (q : ByteArray) (w : World) (hc : w.cell? ⟨N, 0, none⟩ = some (.string q)) :
    Calls Tryz.prog 211 #[.pointer (some ⟨N, 0, none⟩)] w fun e w' => e = .returned (.string q) ∧ w = w' := by
  go_enter Tryz.func211, Tryz.ntmps211
  go_wp2
  go_ret
  exact ⟨rfl, rfl⟩
theorem keyL_eof {s : ByteArray} {p : Nat} {acc : List Nat} (h : ¬ p < s.size) : keyL s p acc = .ok (acc, p, true) := by rw [keyL, dif_neg h]
theorem keyL_end {s : ByteArray} {p : Nat} {acc : List Nat} (h : p < s.size) (h1 : ¬ rAt s p = 92) (h2 : endK (rAt s p) = true) : keyL s p acc = .ok (acc, p, false) := by rw [keyL, dif_pos h, if_neg h1, if_pos h2]
theorem keyL_chr {s : ByteArray} {p : Nat} {acc : List Nat} (h : p < s.size) (h1 : ¬ rAt s p = 92) (h2 : endK (rAt s p) = false) : keyL s p acc = keyL s (p + kAt s p) (acc ++ [rAt s p]) := by rw [keyL, dif_pos h, if_neg h1, if_neg (by rw [h2]; decide)]
theorem keyL_esc {s : ByteArray} {p : Nat} {acc : List Nat} (h : p < s.size) (h1 : rAt s p = 92) (x : Nat × Nat) (h2 : scanE s (p + kAt s p) = some x) : keyL s p acc = keyL s x.2 (acc ++ [x.1]) := by
  rw [keyL, dif_pos h, if_pos h1]
  split
  · rename_i hE; rw [hE] at h2; cases h2
  · rename_i y hE; rw [hE] at h2; injection h2 with h2; subst h2; rfl
theorem keyL_bad {s : ByteArray} {p : Nat} {acc : List Nat} (h : p < s.size) (h1 : rAt s p = 92) (h2 : scanE s (p + kAt s p) = none) : keyL s p acc = .error (badEsc s (p + kAt s p)) := by
  rw [keyL, dif_pos h, if_pos h1]
  split
  · rfl
  · rename_i y hE; rw [hE] at h2; cases h2
theorem valL_eof {s : ByteArray} {p : Nat} {acc : List Nat} (h : ¬ p < s.size) : valL s p acc = .ok (acc, p, true) := by rw [valL, dif_neg h]
theorem valL_end {s : ByteArray} {p : Nat} {acc : List Nat} (h : p < s.size) (h1 : ¬ rAt s p = 92) (h2 : eolR (rAt s p) = true) : valL s p acc = .ok (acc, p + kAt s p, false) := by rw [valL, dif_pos h, if_neg h1, if_pos h2]
theorem valL_chr {s : ByteArray} {p : Nat} {acc : List Nat} (h : p < s.size) (h1 : ¬ rAt s p = 92) (h2 : eolR (rAt s p) = false) : valL s p acc = valL s (p + kAt s p) (acc ++ [rAt s p]) := by rw [valL, dif_pos h, if_neg h1, if_neg (by rw [h2]; decide)]
theorem valL_on {s : ByteArray} {p : Nat} {acc : List Nat} (h : p < s.size) (h1 : rAt s p = 92) (h2 : p + kAt s p < s.size) (h3 : eolR (rAt s (p + kAt s p)) = true) : valL s p acc = valL s (skipW s (p + kAt s p + kAt s (p + kAt s p))) acc := by rw [valL, dif_pos h, if_pos h1, dif_pos ⟨h2, h3⟩]
theorem valL_esc {s : ByteArray} {p : Nat} {acc : List Nat} (h : p < s.size) (h1 : rAt s p = 92) (h0 : ¬ (p + kAt s p < s.size ∧ eolR (rAt s (p + kAt s p)) = true)) (x : Nat × Nat) (h2 : scanE s (p + kAt s p) = some x) : valL s p acc = valL s x.2 (acc ++ [x.1]) := by
  rw [valL, dif_pos h, if_pos h1, dif_neg h0]
  split
  · rename_i hE; rw [hE] at h2; cases h2
  · rename_i y hE; rw [hE] at h2; injection h2 with h2; subst h2; rfl
theorem valL_bad {s : ByteArray} {p : Nat} {acc : List Nat} (h : p < s.size) (h1 : rAt s p = 92) (h0 : ¬ (p + kAt s p < s.size ∧ eolR (rAt s (p + kAt s p)) = true)) (h2 : scanE s (p + kAt s p) = none) : valL s p acc = .error (badEsc s (p + kAt s p)) := by
  rw [valL, dif_pos h, if_pos h1, dif_neg h0]
  split
  · rfl
  · rename_i y hE; rw [hE] at h2; cases h2
set_option maxHeartbeats 8000000 in
set_option maxRecDepth 100000 in
theorem key_any (B lb pos start : Nat) (s : ByteArray) (its : List LI) (w : World) (h : LY B lb s pos start [] its w) (hs : s.size ≤ 2147483647) (hp2 : pos ≤ s.size) (hi : its.length ≤ 900000) (hT : TabsL B w) (hst : start = pos) (r : List LI × Option (NX × Nat)) (hr : lexS s .key pos = r) :
    Calls Tryz.prog 149 #[.pointer (some ⟨lb, 0, none⟩)] w (StPost B lb s its r w) := by
  subst hst
  have HB0 : Hid (Below B w w) := Lib.hid (Below.refl B w)
  have HT := Lib.hid hT
  have HY0 := Lib.hid h
  unfold lexS at hr
  dsimp only at hr
  obtain ⟨T, hTT⟩ : ∃ T, keyL s start [] = T := ⟨_, rfl⟩
  rw [hTT] at hr
  have HTT := Lib.hid hTT
  have HRR := Lib.hid hr
  clear h hT hr hTT
  go_enter Tryz.func149, Tryz.ntmps149
  go_wp2
  go_step3
  go_wp2
  go_step3
  go_wp2
  go_loopg [3] (s.size - start + 1) (fun g rv wr => ∃ (p : Nat) (acc : List Nat), g = s.size - p + 1 ∧ p ≤ s.size ∧ Hid (acc.length ≤ p) ∧ Hid (acc = [] → p = start) ∧ Hid (LY B lb s p start acc its wr) ∧ Hid (Below B w wr) ∧ Hid (keyL s p acc = T))
  case atStart => exact ⟨start, [], rfl, hp2, Nat.zero_le _, Lib.hid (fun _ => rfl), HY0, HB0, HTT⟩
  case round =>
    obtain ⟨p, acc, rfl, hp, HA, HN0, HYL, HBL, HC⟩ := hrel
    have hTr := HT.out.below HBL.out
    by_cases hlt : p < s.size
    · obtain ⟨R, hR⟩ : ∃ R, rAt s p = R := ⟨_, rfl⟩
      obtain ⟨K, hK⟩ : ∃ K, kAt s p = K := ⟨_, rfl⟩
      have hok := rAt_ok s p
      have hk := kAt_pos s p hlt
      have hC := HC.out
      rw [hR] at hok
      rw [hK] at hk
      have HN := Lib.hid (nextY_at B lb p start s acc its wr HYL.out hs hlt hTr R K hR hK)
      have TE := Lib.hid (fun w => isEOF_at R w)
      by_cases h92 : R = 92
      · have T1 := Lib.hid (fun w => isEsc_at R w true (by rw [h92]; rfl))
        obtain ⟨o, ho⟩ : ∃ o, scanE s (p + K) = o := ⟨_, rfl⟩
        obtain ⟨msg, hm⟩ : ∃ msg, badEsc s (p + K) = msg := ⟨_, rfl⟩
        have SC := Lib.hid (fun w' (h : LY B lb s (p + K) start acc its w') (hT : TabsL B w') => esc_any B lb (p + K) start s acc its w' h hs hk.2 hT (by have := HA.out; omega) o ho msg hm)
        cases o with
        | some x =>
          have hx := scanE_gt s _ x ho
          have HC2 : Hid (keyL s x.2 (acc ++ [x.1]) = T) := Lib.hid (by rw [← keyL_esc hlt (by rw [hR, h92]) x (by rw [hK]; exact ho)]; exact hC)
          clear hR hK hok hTr hC ho hm h92
          go_wp2_with (go_at_call 140; (with_reducible refine HN.out.mono ?_); rintro e v1 ⟨rfl, hx, hb⟩; dsimp only)
          have HX1 := Lib.hid hx
          have HB1 := Lib.hid (HBL.out.trans hb)
          clear hx hb
          have HY1 : Hid (LY B lb s (p + K) start acc its v1) := Lib.hid ⟨_, HX1.out⟩
          go_wp2_with (go_at_call 153; (with_reducible refine (T1.out _).mono ?_); rintro e v2 ⟨rfl, rfl⟩; dsimp only)
          go_wp2_with (go_at_call 154; (with_reducible refine (SC.out _ HY1.out (HT.out.below HB1.out)).mono ?_); rintro e v3 ⟨rfl, hy, hb⟩; dsimp only)
          have HY3 := Lib.hid hy
          have HB3 := Lib.hid (HB1.out.trans hb)
          clear hy hb
          go_wp2
          go_roundg (s.size - x.2 + 1)
          case measure => omega
          case rel => exact ⟨x.2, acc ++ [x.1], rfl, hx.2, Lib.hid (by have := HA.out; simp; omega), Lib.hid (by simp), HY3, HB3, HC2⟩
        | none =>
          have hC2 := hC.symm.trans (keyL_bad hlt (by rw [hR, h92]) (by rw [hK]; exact ho))
          rw [hK, hm] at hC2
          subst hC2
          have hr := HRR.out
          dsimp only at hr
          subst hr
          unfold StPost
          clear hR hK hok hTr ho hm h92 hC
          go_wp2_with (go_at_call 140; (with_reducible refine HN.out.mono ?_); rintro e v4 ⟨rfl, hx, hb⟩; dsimp only)
          have HX4 := Lib.hid hx
          have HB4 := Lib.hid (HBL.out.trans hb)
          clear hx hb
          have HY4 : Hid (LY B lb s (p + K) start acc its v4) := Lib.hid ⟨_, HX4.out⟩
          go_wp2_with (go_at_call 153; (with_reducible refine (T1.out _).mono ?_); rintro e v5 ⟨rfl, rfl⟩; dsimp only)
          go_wp2_with (go_at_call 154; (with_reducible refine (SC.out _ HY4.out (HT.out.below HB4.out)).mono ?_); rintro e v6 ⟨N, q, rfl, hc, hy, hb⟩; dsimp only)
          have HY6 := Lib.hid hy
          have HB6 := Lib.hid (HB4.out.trans hb)
          clear hy hb
          have ER := Lib.hid (fun w' (h : LY B lb s q start acc its w') => errorY B lb q start s msg acc its w' h (by omega))
          have HC6 := Lib.hid (errStr_any N msg v6 hc)
          clear hc
          go_wp2_with (go_at_call 211; (with_reducible refine HC6.out.mono ?_); rintro e v7 ⟨rfl, rfl⟩; dsimp only)
          go_wp2_with (go_at_call 155; (with_reducible refine (ER.out _ HY6.out).mono ?_); rintro e v8 ⟨rfl, hy, hb⟩; dsimp only)
          have HY8 := Lib.hid hy
          have HB8 := Lib.hid (HB6.out.trans hb)
          clear hy hb
          go_wp2
          rw [Exit.noGoto_ret]
          go_ret
          exact ⟨⟨rfl, _, _, _, HY8.out⟩, HB8.out⟩
      · have T1 := Lib.hid (fun w => isEsc_at R w false (by rw [beq_eq_false_iff_ne]; exact h92))
        cases he : endK R with
        | true =>
          have hC2 := hC.symm.trans (keyL_end hlt (by rw [hR]; exact h92) (by rw [hR]; exact he))
          subst hC2
          have hr := HRR.out
          dsimp only at hr
          have T2 := Lib.hid (fun w => isEnd_at R w hok true he)
          have BK := Lib.hid (fun w' (h : LX B lb s (p + K) start K acc its w') => backupY B lb p K start s acc its w' h (by omega))
          have EM := Lib.hid (fun w' (h : LY B lb s p start acc its w') => emitL B lb p start 2 2 rfl s acc its w' h (by omega))
          clear hR hK hok hTr h92 he hC
          by_cases hae : acc = []
          · subst hae
            have hps := HN0.out rfl
            subst hps
            simp only [if_true, List.nil_append, Bool.false_eq_true, if_false] at hr
            subst hr
            unfold StPost
            go_wp2_with (go_at_call 140; (with_reducible refine HN.out.mono ?_); rintro e v9 ⟨rfl, hx, hb⟩; dsimp only)
            have HX9 := Lib.hid hx
            have HB9 := Lib.hid (HBL.out.trans hb)
            clear hx hb
            go_wp2_with (go_at_call 153; (with_reducible refine (T1.out _).mono ?_); rintro e v10 ⟨rfl, rfl⟩; dsimp only)
            go_wp2_with (go_at_call 156; (with_reducible refine (T2.out _).mono ?_); rintro e v11 ⟨rfl, hb⟩; dsimp only)
            have HX11 := Lib.hid (HX9.out.below hb)
            have HB11 : Hid (Below B w v11) := Lib.hid (HB9.out.trans (hb.mono (Nat.le_trans HX9.out.lo (Nat.le_of_lt HX9.out.lt))))
            clear hb
            go_wp2_with (go_at_call 148; (with_reducible refine (BK.out _ HX11.out).mono ?_); rintro e v12 ⟨rfl, hy, hb⟩; obtain ⟨gg, cc, hlen⟩ := hy.len; have HY12 := Lib.hid hy; have HB12 := Lib.hid (HB11.out.trans hb); clear hy hb; dsimp only)
            go_wp2_with (go_at_call 141; (with_reducible refine (TE.out _).mono ?_); rintro e v13 ⟨rfl, rfl⟩; dsimp only)
            go_wp2
            rw [Exit.noGoto_ret]
            go_ret
            exact ⟨⟨rfl, _, HY12.out.nil, .inr rfl⟩, HB12.out⟩
          · rw [if_neg hae] at hr
            simp only [if_false, Bool.false_eq_true, List.append_nil] at hr
            subst hr
            unfold StPost
            obtain ⟨m, hm⟩ : ∃ m, acc.length = m := ⟨_, rfl⟩
            have hm0 : (0 : Int) < (m : Int) := by have := List.length_pos_iff.2 hae; omega
            clear hae
            go_wp2_with (go_at_call 140; (with_reducible refine HN.out.mono ?_); rintro e v14 ⟨rfl, hx, hb⟩; dsimp only)
            have HX14 := Lib.hid hx
            have HB14 := Lib.hid (HBL.out.trans hb)
            clear hx hb
            go_wp2_with (go_at_call 153; (with_reducible refine (T1.out _).mono ?_); rintro e v15 ⟨rfl, rfl⟩; dsimp only)
            go_wp2_with (go_at_call 156; (with_reducible refine (T2.out _).mono ?_); rintro e v16 ⟨rfl, hb⟩; dsimp only)
            have HX16 := Lib.hid (HX14.out.below hb)
            have HB16 : Hid (Below B w v16) := Lib.hid (HB14.out.trans (hb.mono (Nat.le_trans HX14.out.lo (Nat.le_of_lt HX14.out.lt))))
            clear hb
            go_wp2_with (go_at_call 148; (with_reducible refine (BK.out _ HX16.out).mono ?_); rintro e v17 ⟨rfl, hy, hb⟩; obtain ⟨gg, cc, hlen⟩ := hy.len; have HY17 := Lib.hid hy; have HB17 := Lib.hid (HB16.out.trans hb); clear hy hb; dsimp only)
            go_wp2_with (go_at_call 142; (with_reducible refine (EM.out _ HY17.out).mono ?_); rintro e v18 ⟨rfl, hy, hb⟩; dsimp only)
            have HY18 := Lib.hid hy
            have HB18 := Lib.hid (HB17.out.trans hb)
            clear hy hb
            go_wp2_with (go_at_call 141; (with_reducible refine (TE.out _).mono ?_); rintro e v19 ⟨rfl, rfl⟩; dsimp only)
            go_wp2
            rw [Exit.noGoto_ret]
            go_ret
            exact ⟨⟨rfl, _, HY18.out, .inr rfl⟩, HB18.out⟩
        | false =>
          have HC2 := Lib.hid (by have := hC; rw [keyL_chr hlt (by rw [hR]; exact h92) (by rw [hR]; exact he), hR, hK] at this; exact this)
          have T2 := Lib.hid (fun w => isEnd_at R w hok false he)
          have AP := Lib.hid (fun w' (h : LY B lb s (p + K) start acc its w') => appendY B lb (p + K) start R s acc its w' h (by have := HA.out; omega))
          clear hR hK hok hTr h92 he hC
          go_wp2_with (go_at_call 140; (with_reducible refine HN.out.mono ?_); rintro e v20 ⟨rfl, hx, hb⟩; dsimp only)
          have HX20 := Lib.hid hx
          have HB20 := Lib.hid (HBL.out.trans hb)
          clear hx hb
          have HY20 : Hid (LY B lb s (p + K) start acc its v20) := Lib.hid ⟨_, HX20.out⟩
          go_wp2_with (go_at_call 153; (with_reducible refine (T1.out _).mono ?_); rintro e v21 ⟨rfl, rfl⟩; dsimp only)
          go_wp2_with (go_at_call 156; (with_reducible refine (T2.out _).mono ?_); rintro e v22 ⟨rfl, hb⟩; dsimp only)
          have HY22 := Lib.hid (HY20.out.below hb)
          have HB22 : Hid (Below B w v22) := Lib.hid (HB20.out.trans (hb.mono HY20.out.lt))
          clear hb
          go_wp2_with (go_at_call 141; (with_reducible refine (TE.out _).mono ?_); rintro e v23 ⟨rfl, rfl⟩; dsimp only)
          go_wp2_with (go_at_call 152; (with_reducible refine (AP.out _ HY22.out).mono ?_); rintro e v24 ⟨rfl, hy, hb⟩; dsimp only)
          have HY24 := Lib.hid hy
          have HB24 := Lib.hid (HB22.out.trans hb)
          clear hy hb
          go_wp2
          go_roundg (s.size - (p + K) + 1)
          case measure => omega
          case rel => exact ⟨p + K, acc ++ [R], rfl, hk.2, Lib.hid (by have := HA.out; simp; omega), Lib.hid (by simp), HY24, HB24, HC2⟩
    · have hC := HC.out
      have hC2 := hC.symm.trans (keyL_eof hlt)
      subst hC2
      have hr := HRR.out
      dsimp only at hr
      have HN := Lib.hid (nextY_end B lb p start s acc its wr HYL.out hs hlt hp)
      have TE := Lib.hid (fun w => isEOF_eof w)
      have T1 := Lib.hid (fun w => isEsc_eof w)
      have T2 := Lib.hid (fun w => isEnd_eof w)
      have EM := Lib.hid (fun w' (h : LY B lb s p start acc its w') => emitL B lb p start 2 2 rfl s acc its w' h (by omega))
      clear hTr hC
      by_cases hae : acc = []
      · subst hae
        have hps := HN0.out rfl
        subst hps
        simp only [if_true, List.nil_append] at hr
        subst hr
        unfold StPost
        have EM1 := Lib.hid (fun w' (h : LY B lb s p p [] its w') => emitL B lb p p 1 1 rfl s [] its w' h (by omega))
        go_wp2_with (go_at_call 140; (with_reducible refine HN.out.mono ?_); rintro e v25 ⟨rfl, hx, hb⟩; dsimp only)
        have HX25 := Lib.hid hx
        have HB25 := Lib.hid (HBL.out.trans hb)
        clear hx hb
        have HY25 : Hid (LY B lb s p p [] its v25) := Lib.hid ⟨_, HX25.out⟩
        obtain ⟨gg, cc, hlen⟩ := HY25.out.len
        go_wp2_with (go_at_call 153; (with_reducible refine (T1.out _).mono ?_); rintro e v26 ⟨rfl, rfl⟩; dsimp only)
        go_wp2_with (go_at_call 156; (with_reducible refine (T2.out _).mono ?_); rintro e v27 ⟨rfl, rfl⟩; dsimp only)
        go_wp2_with (go_at_call 141; (with_reducible refine (TE.out _).mono ?_); rintro e v28 ⟨rfl, rfl⟩; dsimp only)
        go_wp2_with (go_at_call 141; (with_reducible refine (TE.out _).mono ?_); rintro e v29 ⟨rfl, rfl⟩; dsimp only)
        go_wp2_with (go_at_call 142; (with_reducible refine (EM1.out _ HY25.out).mono ?_); rintro e v30 ⟨rfl, hy, hb⟩; dsimp only)
        have HY30 := Lib.hid hy
        have HB30 := Lib.hid (HB25.out.trans hb)
        clear hy hb
        go_wp2
        rw [Exit.noGoto_ret]
        go_ret
        exact ⟨⟨rfl, _, _, _, HY30.out⟩, HB30.out⟩
      · rw [if_neg hae] at hr
        simp only [if_true] at hr
        subst hr
        unfold StPost
        obtain ⟨m, hm⟩ : ∃ m, acc.length = m := ⟨_, rfl⟩
        have hm0 : (0 : Int) < (m : Int) := by have := List.length_pos_iff.2 hae; omega
        clear hae
        have EM1 := Lib.hid (fun w' (h : LY B lb s p p [] (its ++ [⟨2, start, textOf acc⟩]) w') => emitL B lb p p 1 1 rfl s [] (its ++ [⟨2, start, textOf acc⟩]) w' h (by simp; omega))
        go_wp2_with (go_at_call 140; (with_reducible refine HN.out.mono ?_); rintro e v31 ⟨rfl, hx, hb⟩; dsimp only)
        have HX31 := Lib.hid hx
        have HB31 := Lib.hid (HBL.out.trans hb)
        clear hx hb
        have HY31 : Hid (LY B lb s p start acc its v31) := Lib.hid ⟨_, HX31.out⟩
        obtain ⟨gg, cc, hlen⟩ := HY31.out.len
        go_wp2_with (go_at_call 153; (with_reducible refine (T1.out _).mono ?_); rintro e v32 ⟨rfl, rfl⟩; dsimp only)
        go_wp2_with (go_at_call 156; (with_reducible refine (T2.out _).mono ?_); rintro e v33 ⟨rfl, rfl⟩; dsimp only)
        go_wp2_with (go_at_call 141; (with_reducible refine (TE.out _).mono ?_); rintro e v34 ⟨rfl, rfl⟩; dsimp only)
        go_wp2_with (go_at_call 142; (with_reducible refine (EM.out _ HY31.out).mono ?_); rintro e v35 ⟨rfl, hy, hb⟩; dsimp only)
        have HY35 := Lib.hid hy
        have HB35 := Lib.hid (HB31.out.trans hb)
        clear hy hb
        go_wp2_with (go_at_call 141; (with_reducible refine (TE.out _).mono ?_); rintro e v36 ⟨rfl, rfl⟩; dsimp only)
        go_wp2_with (go_at_call 142; (with_reducible refine (EM1.out _ HY35.out).mono ?_); rintro e v37 ⟨rfl, hy, hb⟩; dsimp only)
        have HY37 := Lib.hid hy
        have HB37 := Lib.hid (HB35.out.trans hb)
        clear hy hb
        go_wp2
        rw [Exit.noGoto_ret]
        go_ret
        exact ⟨⟨rfl, _, _, _, by have := HY37.out; rw [List.append_assoc] at this; exact this⟩, HB37.out⟩
end Go.Proofs.YtgmhigjhooihdaaGreatDoor

set_option linter.unusedVariables false
namespace Go.Proofs.YtgmhigjhooihdaaGreatDoor
open Go.RowKit Plain

set_option maxHeartbeats 8000000 in
set_option maxRecDepth 100000 in
theorem val_any (B lb pos start : Nat) (s : ByteArray) (its : List LI) (w : World) (h : LY B lb s pos start [] its w) (hs : s.size ≤ 2147483647) (hp2 : pos ≤ s.size) (hi : its.length ≤ 900000) (hT : TabsL B w) (hst : start = pos) (r : List LI × Option (NX × Nat)) (hr : lexS s .val pos = r) :
    Calls Tryz.prog 163 #[.pointer (some ⟨lb, 0, none⟩)] w (StPost B lb s its r w) := by
  subst hst
  have HB0 : Hid (Below B w w) := Lib.hid (Below.refl B w)
  have HT := Lib.hid hT
  have HY0 := Lib.hid h
  unfold lexS at hr
  dsimp only at hr
  obtain ⟨T, hTT⟩ : ∃ T, valL s start [] = T := ⟨_, rfl⟩
  rw [hTT] at hr
  have HTT := Lib.hid hTT
  have HRR := Lib.hid hr
  clear h hT hr hTT
  go_enter Tryz.func163, Tryz.ntmps163
  go_wp2
  go_loopg [3] (s.size - start + 1) (fun g rv wr => ∃ (p : Nat) (acc : List Nat), g = s.size - p + 1 ∧ p ≤ s.size ∧ Hid (acc.length ≤ p) ∧ Hid (LY B lb s p start acc its wr) ∧ Hid (Below B w wr) ∧ Hid (valL s p acc = T))
  case atStart => exact ⟨start, [], rfl, hp2, Nat.zero_le _, HY0, HB0, HTT⟩
  case round =>
    obtain ⟨p, acc, rfl, hp, HA, HYL, HBL, HC⟩ := hrel
    have hTr := HT.out.below HBL.out
    by_cases hlt : p < s.size
    · obtain ⟨R, hR⟩ : ∃ R, rAt s p = R := ⟨_, rfl⟩
      obtain ⟨K, hK⟩ : ∃ K, kAt s p = K := ⟨_, rfl⟩
      have hok := rAt_ok s p
      have hk := kAt_pos s p hlt
      have hC := HC.out
      rw [hR] at hok
      rw [hK] at hk
      have HN := Lib.hid (nextY_at B lb p start s acc its wr HYL.out hs hlt hTr R K hR hK)
      have TE := Lib.hid (fun w => isEOF_at R w)
      by_cases h92 : R = 92
      · have T1 := Lib.hid (fun w => isEsc_at R w true (by rw [h92]; rfl))
        obtain ⟨o, ho⟩ : ∃ o, scanE s (p + K) = o := ⟨_, rfl⟩
        obtain ⟨msg, hm⟩ : ∃ msg, badEsc s (p + K) = msg := ⟨_, rfl⟩
        have SC := Lib.hid (fun w' (h : LY B lb s (p + K) start acc its w') (hT : TabsL B w') => esc_any B lb (p + K) start s acc its w' h hs hk.2 hT (by have := HA.out; omega) o ho msg hm)
        by_cases hq : p + K < s.size
        · obtain ⟨R2, hR2⟩ : ∃ R2, rAt s (p + K) = R2 := ⟨_, rfl⟩
          have PK := Lib.hid (fun w' (h : LY B lb s (p + K) start acc its w') (hT : TabsL B w') => peek_at B lb (p + K) start s acc its w' h hs hq hT R2 hR2)
          cases he2 : eolR R2 with
          | true =>
            obtain ⟨K2, hK2⟩ : ∃ K2, kAt s (p + K) = K2 := ⟨_, rfl⟩
            have hk2 := kAt_pos s _ hq
            rw [hK2] at hk2
            obtain ⟨p3, hp3⟩ : ∃ p3, skipW s (p + K + K2) = p3 := ⟨_, rfl⟩
            have hp3a := skipW_ge s (p + K + K2)
            have hp3b := skipW_le s (p + K + K2) hk2.2
            rw [hp3] at hp3a hp3b
            have HC2 : Hid (valL s p3 acc = T) := Lib.hid (by
              have := hC
              rw [valL_on hlt (by rw [hR, h92]) (by rw [hK]; exact hq) (by rw [hK, hR2]; exact he2), hK, hK2, hp3] at this
              exact this)
            have T2 := Lib.hid (fun w => isEOL_at R2 w true he2)
            have N2 := Lib.hid (fun w' (h : LY B lb s (p + K) start acc its w') (hT : TabsL B w') => nextY_at B lb (p + K) start s acc its w' h hs hq hT R2 K2 hR2 hK2)
            have RW := Lib.hid (fun w' (h : LY B lb s (p + K + K2) start acc its w') (hT : TabsL B w') => run_ws B lb (p + K + K2) start p3 s acc its w' h hs hk2.2 hT hp3)
            clear hR hK hok hTr hC ho hm h92 hR2 hK2 he2 hp3
            go_wp2_with (go_at_call 140; (with_reducible refine HN.out.mono ?_); rintro e v1 ⟨rfl, hx, hb⟩; dsimp only)
            have HX1 := Lib.hid hx
            have HB1 := Lib.hid (HBL.out.trans hb)
            clear hx hb
            have HY1 : Hid (LY B lb s (p + K) start acc its v1) := Lib.hid ⟨_, HX1.out⟩
            go_wp2_with (go_at_call 153; (with_reducible refine (T1.out _).mono ?_); rintro e v2 ⟨rfl, rfl⟩; dsimp only)
            go_wp2_with (go_at_call 165; (with_reducible refine (PK.out _ HY1.out (HT.out.below HB1.out)).mono ?_); rintro e v3 ⟨rfl, hy, hb⟩; dsimp only)
            have HY3 := Lib.hid hy
            have HB3 := Lib.hid (HB1.out.trans hb)
            clear hy hb
            go_wp2_with (go_at_call 143; (with_reducible refine (T2.out _).mono ?_); rintro e v4 ⟨rfl, rfl⟩; dsimp only)
            go_wp2_with (go_at_call 140; (with_reducible refine (N2.out _ HY3.out (HT.out.below HB3.out)).mono ?_); rintro e v5 ⟨rfl, hx, hb⟩; dsimp only)
            have HX5 := Lib.hid hx
            have HB5 := Lib.hid (HB3.out.trans hb)
            clear hx hb
            have HY5 : Hid (LY B lb s (p + K + K2) start acc its v5) := Lib.hid ⟨_, HX5.out⟩
            go_wp2_with (go_at_call 151; (with_reducible refine (RW.out _ HY5.out (HT.out.below HB5.out)).mono ?_); rintro e v6 ⟨rfl, hy, hb⟩; dsimp only)
            have HY6 := Lib.hid hy
            have HB6 := Lib.hid (HB5.out.trans hb)
            clear hy hb
            go_wp2
            go_roundg (s.size - p3 + 1)
            case measure => omega
            case rel => exact ⟨p3, acc, rfl, hp3b, Lib.hid (by have := HA.out; omega), HY6, HB6, HC2⟩
          | false =>
            have T2 := Lib.hid (fun w => isEOL_at R2 w false he2)
            have h00 : ¬ (p + kAt s p < s.size ∧ eolR (rAt s (p + kAt s p)) = true) := by rw [hK, hR2, he2]; simp
            cases o with
            | some x =>
              have hx := scanE_gt s _ x ho
              have HC2 : Hid (valL s x.2 (acc ++ [x.1]) = T) := Lib.hid (by rw [← valL_esc hlt (by rw [hR, h92]) h00 x (by rw [hK]; exact ho)]; exact hC)
              clear hR hK hok hTr hC ho hm h92 h00
              go_wp2_with (go_at_call 140; (with_reducible refine HN.out.mono ?_); rintro e v7 ⟨rfl, hx, hb⟩; dsimp only)
              have HX7 := Lib.hid hx
              have HB7 := Lib.hid (HBL.out.trans hb)
              clear hx hb
              have HY7 : Hid (LY B lb s (p + K) start acc its v7) := Lib.hid ⟨_, HX7.out⟩
              go_wp2_with (go_at_call 153; (with_reducible refine (T1.out _).mono ?_); rintro e v8 ⟨rfl, rfl⟩; dsimp only)
              go_wp2_with (go_at_call 165; (with_reducible refine (PK.out _ HY7.out (HT.out.below HB7.out)).mono ?_); rintro e v9 ⟨rfl, hy, hb⟩; dsimp only)
              have HY9 := Lib.hid hy
              have HB9 := Lib.hid (HB7.out.trans hb)
              clear hy hb
              go_wp2_with (go_at_call 143; (with_reducible refine (T2.out _).mono ?_); rintro e v10 ⟨rfl, rfl⟩; dsimp only)
              go_wp2_with (go_at_call 154; (with_reducible refine (SC.out _ HY9.out (HT.out.below HB9.out)).mono ?_); rintro e v11 ⟨rfl, hy, hb⟩; dsimp only)
              have HY11 := Lib.hid hy
              have HB11 := Lib.hid (HB9.out.trans hb)
              clear hy hb
              go_wp2
              go_roundg (s.size - x.2 + 1)
              case measure => omega
              case rel => exact ⟨x.2, acc ++ [x.1], rfl, hx.2, Lib.hid (by have := HA.out; simp; omega), HY11, HB11, HC2⟩
            | none =>
              have hC2 := hC.symm.trans (valL_bad hlt (by rw [hR, h92]) h00 (by rw [hK]; exact ho))
              rw [hK, hm] at hC2
              subst hC2
              have hr := HRR.out
              dsimp only at hr
              subst hr
              unfold StPost
              clear hR hK hok hTr ho hm h92 hC h00
              go_wp2_with (go_at_call 140; (with_reducible refine HN.out.mono ?_); rintro e v12 ⟨rfl, hx, hb⟩; dsimp only)
              have HX12 := Lib.hid hx
              have HB12 := Lib.hid (HBL.out.trans hb)
              clear hx hb
              have HY12 : Hid (LY B lb s (p + K) start acc its v12) := Lib.hid ⟨_, HX12.out⟩
              go_wp2_with (go_at_call 153; (with_reducible refine (T1.out _).mono ?_); rintro e v13 ⟨rfl, rfl⟩; dsimp only)
              go_wp2_with (go_at_call 165; (with_reducible refine (PK.out _ HY12.out (HT.out.below HB12.out)).mono ?_); rintro e v14 ⟨rfl, hy, hb⟩; dsimp only)
              have HY14 := Lib.hid hy
              have HB14 := Lib.hid (HB12.out.trans hb)
              clear hy hb
              go_wp2_with (go_at_call 143; (with_reducible refine (T2.out _).mono ?_); rintro e v15 ⟨rfl, rfl⟩; dsimp only)
              go_wp2_with (go_at_call 154; (with_reducible refine (SC.out _ HY14.out (HT.out.below HB14.out)).mono ?_); rintro e v16 ⟨N, q, rfl, hc, hy, hb⟩; dsimp only)
              have HY16 := Lib.hid hy
              have HB16 := Lib.hid (HB14.out.trans hb)
              clear hy hb
              have ER := Lib.hid (fun w' (h : LY B lb s q start acc its w') => errorY B lb q start s msg acc its w' h (by omega))
              have HC16 := Lib.hid (errStr_any N msg v16 hc)
              clear hc
              go_wp2_with (go_at_call 211; (with_reducible refine HC16.out.mono ?_); rintro e v17 ⟨rfl, rfl⟩; dsimp only)
              go_wp2_with (go_at_call 155; (with_reducible refine (ER.out _ HY16.out).mono ?_); rintro e v18 ⟨rfl, hy, hb⟩; dsimp only)
              have HY18 := Lib.hid hy
              have HB18 := Lib.hid (HB16.out.trans hb)
              clear hy hb
              go_wp2
              go_ret
              exact ⟨⟨rfl, _, _, _, HY18.out⟩, HB18.out⟩
        · have PK := Lib.hid (fun w' (h : LY B lb s (p + K) start acc its w') (hT : TabsL B w') => peek_end B lb (p + K) start s acc its w' h hs hq hk.2)
          have T2 := Lib.hid (fun w => isEOL_eof w)
          have h00 : ¬ (p + kAt s p < s.size ∧ eolR (rAt s (p + kAt s p)) = true) := by rw [hK]; exact fun h => hq h.1
          cases o with
          | some x =>
            have hx := scanE_gt s _ x ho
            have HC2 : Hid (valL s x.2 (acc ++ [x.1]) = T) := Lib.hid (by rw [← valL_esc hlt (by rw [hR, h92]) h00 x (by rw [hK]; exact ho)]; exact hC)
            clear hR hK hok hTr hC ho hm h92 h00
            go_wp2_with (go_at_call 140; (with_reducible refine HN.out.mono ?_); rintro e v19 ⟨rfl, hx, hb⟩; dsimp only)
            have HX19 := Lib.hid hx
            have HB19 := Lib.hid (HBL.out.trans hb)
            clear hx hb
            have HY19 : Hid (LY B lb s (p + K) start acc its v19) := Lib.hid ⟨_, HX19.out⟩
            go_wp2_with (go_at_call 153; (with_reducible refine (T1.out _).mono ?_); rintro e v20 ⟨rfl, rfl⟩; dsimp only)
            go_wp2_with (go_at_call 165; (with_reducible refine (PK.out _ HY19.out (HT.out.below HB19.out)).mono ?_); rintro e v21 ⟨rfl, hy, hb⟩; dsimp only)
            have HY21 := Lib.hid hy
            have HB21 := Lib.hid (HB19.out.trans hb)
            clear hy hb
            go_wp2_with (go_at_call 143; (with_reducible refine (T2.out _).mono ?_); rintro e v22 ⟨rfl, rfl⟩; dsimp only)
            go_wp2_with (go_at_call 154; (with_reducible refine (SC.out _ HY21.out (HT.out.below HB21.out)).mono ?_); rintro e v23 ⟨rfl, hy, hb⟩; dsimp only)
            have HY23 := Lib.hid hy
            have HB23 := Lib.hid (HB21.out.trans hb)
            clear hy hb
            go_wp2
            go_roundg (s.size - x.2 + 1)
            case measure => omega
            case rel => exact ⟨x.2, acc ++ [x.1], rfl, hx.2, Lib.hid (by have := HA.out; simp; omega), HY23, HB23, HC2⟩
          | none =>
            have hC2 := hC.symm.trans (valL_bad hlt (by rw [hR, h92]) h00 (by rw [hK]; exact ho))
            rw [hK, hm] at hC2
            subst hC2
            have hr := HRR.out
            dsimp only at hr
            subst hr
            unfold StPost
            clear hR hK hok hTr ho hm h92 hC h00
            go_wp2_with (go_at_call 140; (with_reducible refine HN.out.mono ?_); rintro e v24 ⟨rfl, hx, hb⟩; dsimp only)
            have HX24 := Lib.hid hx
            have HB24 := Lib.hid (HBL.out.trans hb)
            clear hx hb
            have HY24 : Hid (LY B lb s (p + K) start acc its v24) := Lib.hid ⟨_, HX24.out⟩
            go_wp2_with (go_at_call 153; (with_reducible refine (T1.out _).mono ?_); rintro e v25 ⟨rfl, rfl⟩; dsimp only)
            go_wp2_with (go_at_call 165; (with_reducible refine (PK.out _ HY24.out (HT.out.below HB24.out)).mono ?_); rintro e v26 ⟨rfl, hy, hb⟩; dsimp only)
            have HY26 := Lib.hid hy
            have HB26 := Lib.hid (HB24.out.trans hb)
            clear hy hb
            go_wp2_with (go_at_call 143; (with_reducible refine (T2.out _).mono ?_); rintro e v27 ⟨rfl, rfl⟩; dsimp only)
            go_wp2_with (go_at_call 154; (with_reducible refine (SC.out _ HY26.out (HT.out.below HB26.out)).mono ?_); rintro e v28 ⟨N, q, rfl, hc, hy, hb⟩; dsimp only)
            have HY28 := Lib.hid hy
            have HB28 := Lib.hid (HB26.out.trans hb)
            clear hy hb
            have ER := Lib.hid (fun w' (h : LY B lb s q start acc its w') => errorY B lb q start s msg acc its w' h (by omega))
            have HC28 := Lib.hid (errStr_any N msg v28 hc)
            clear hc
            go_wp2_with (go_at_call 211; (with_reducible refine HC28.out.mono ?_); rintro e v29 ⟨rfl, rfl⟩; dsimp only)
            go_wp2_with (go_at_call 155; (with_reducible refine (ER.out _ HY28.out).mono ?_); rintro e v30 ⟨rfl, hy, hb⟩; dsimp only)
            have HY30 := Lib.hid hy
            have HB30 := Lib.hid (HB28.out.trans hb)
            clear hy hb
            go_wp2
            go_ret
            exact ⟨⟨rfl, _, _, _, HY30.out⟩, HB30.out⟩
      · have T1 := Lib.hid (fun w => isEsc_at R w false (by rw [beq_eq_false_iff_ne]; exact h92))
        cases he : eolR R with
        | true =>
          have hC2 := hC.symm.trans (valL_end hlt (by rw [hR]; exact h92) (by rw [hR]; exact he))
          rw [hK] at hC2
          subst hC2
          have hr := HRR.out
          dsimp only at hr
          simp only [Bool.false_eq_true, if_false, List.append_nil] at hr
          subst hr
          unfold StPost
          have T2 := Lib.hid (fun w => isEOL_at R w true he)
          have EM := Lib.hid (fun w' (h : LY B lb s (p + K) start acc its w') => emitL B lb (p + K) start 3 3 rfl s acc its w' h (by omega))
          have IG := Lib.hid (fun w' (h : LY B lb s (p + K) (p + K) [] (its ++ [⟨3, start, textOf acc⟩]) w') => ignoreY B lb (p + K) (p + K) s [] (its ++ [⟨3, start, textOf acc⟩]) w' h)
          clear hR hK hok hTr h92 he hC
          go_wp2_with (go_at_call 140; (with_reducible refine HN.out.mono ?_); rintro e v31 ⟨rfl, hx, hb⟩; dsimp only)
          have HX31 := Lib.hid hx
          have HB31 := Lib.hid (HBL.out.trans hb)
          clear hx hb
          have HY31 : Hid (LY B lb s (p + K) start acc its v31) := Lib.hid ⟨_, HX31.out⟩
          go_wp2_with (go_at_call 153; (with_reducible refine (T1.out _).mono ?_); rintro e v32 ⟨rfl, rfl⟩; dsimp only)
          go_wp2_with (go_at_call 143; (with_reducible refine (T2.out _).mono ?_); rintro e v33 ⟨rfl, rfl⟩; dsimp only)
          go_wp2_with (go_at_call 142; (with_reducible refine (EM.out _ HY31.out).mono ?_); rintro e v34 ⟨rfl, hy, hb⟩; dsimp only)
          have HY34 := Lib.hid hy
          have HB34 := Lib.hid (HB31.out.trans hb)
          clear hy hb
          go_wp2_with (go_at_call 144; (with_reducible refine (IG.out _ HY34.out).mono ?_); rintro e v35 ⟨rfl, hy, hb⟩; dsimp only)
          have HY35 := Lib.hid hy
          have HB35 := Lib.hid (HB34.out.trans hb)
          clear hy hb
          go_wp2
          go_ret
          exact ⟨⟨rfl, _, HY35.out, .inr rfl⟩, HB35.out⟩
        | false =>
          have HC2 := Lib.hid (by have := hC; rw [valL_chr hlt (by rw [hR]; exact h92) (by rw [hR]; exact he), hR, hK] at this; exact this)
          have T2 := Lib.hid (fun w => isEOL_at R w false he)
          have AP := Lib.hid (fun w' (h : LY B lb s (p + K) start acc its w') => appendY B lb (p + K) start R s acc its w' h (by have := HA.out; omega))
          clear hR hK hok hTr h92 he hC
          go_wp2_with (go_at_call 140; (with_reducible refine HN.out.mono ?_); rintro e v36 ⟨rfl, hx, hb⟩; dsimp only)
          have HX36 := Lib.hid hx
          have HB36 := Lib.hid (HBL.out.trans hb)
          clear hx hb
          have HY36 : Hid (LY B lb s (p + K) start acc its v36) := Lib.hid ⟨_, HX36.out⟩
          go_wp2_with (go_at_call 153; (with_reducible refine (T1.out _).mono ?_); rintro e v37 ⟨rfl, rfl⟩; dsimp only)
          go_wp2_with (go_at_call 143; (with_reducible refine (T2.out _).mono ?_); rintro e v38 ⟨rfl, rfl⟩; dsimp only)
          go_wp2_with (go_at_call 141; (with_reducible refine (TE.out _).mono ?_); rintro e v39 ⟨rfl, rfl⟩; dsimp only)
          go_wp2_with (go_at_call 152; (with_reducible refine (AP.out _ HY36.out).mono ?_); rintro e v40 ⟨rfl, hy, hb⟩; dsimp only)
          have HY40 := Lib.hid hy
          have HB40 := Lib.hid (HB36.out.trans hb)
          clear hy hb
          go_wp2
          go_roundg (s.size - (p + K) + 1)
          case measure => omega
          case rel => exact ⟨p + K, acc ++ [R], rfl, hk.2, Lib.hid (by have := HA.out; simp; omega), HY40, HB40, HC2⟩
    · have hC := HC.out
      have hC2 := hC.symm.trans (valL_eof hlt)
      subst hC2
      have hr := HRR.out
      dsimp only at hr
      simp only [if_true] at hr
      subst hr
      unfold StPost
      have HN := Lib.hid (nextY_end B lb p start s acc its wr HYL.out hs hlt hp)
      have TE := Lib.hid (fun w => isEOF_eof w)
      have T1 := Lib.hid (fun w => isEsc_eof w)
      have T2 := Lib.hid (fun w => isEOL_eof w)
      have EM := Lib.hid (fun w' (h : LY B lb s p start acc its w') => emitL B lb p start 3 3 rfl s acc its w' h (by omega))
      have EM1 := Lib.hid (fun w' (h : LY B lb s p p [] (its ++ [⟨3, start, textOf acc⟩]) w') => emitL B lb p p 1 1 rfl s [] (its ++ [⟨3, start, textOf acc⟩]) w' h (by simp; omega))
      clear hTr hC
      go_wp2_with (go_at_call 140; (with_reducible refine HN.out.mono ?_); rintro e v41 ⟨rfl, hx, hb⟩; dsimp only)
      have HX41 := Lib.hid hx
      have HB41 := Lib.hid (HBL.out.trans hb)
      clear hx hb
      have HY41 : Hid (LY B lb s p start acc its v41) := Lib.hid ⟨_, HX41.out⟩
      go_wp2_with (go_at_call 153; (with_reducible refine (T1.out _).mono ?_); rintro e v42 ⟨rfl, rfl⟩; dsimp only)
      go_wp2_with (go_at_call 143; (with_reducible refine (T2.out _).mono ?_); rintro e v43 ⟨rfl, rfl⟩; dsimp only)
      go_wp2_with (go_at_call 141; (with_reducible refine (TE.out _).mono ?_); rintro e v44 ⟨rfl, rfl⟩; dsimp only)
      go_wp2_with (go_at_call 142; (with_reducible refine (EM.out _ HY41.out).mono ?_); rintro e v45 ⟨rfl, hy, hb⟩; dsimp only)
      have HY45 := Lib.hid hy
      have HB45 := Lib.hid (HB41.out.trans hb)
      clear hy hb
      go_wp2_with (go_at_call 142; (with_reducible refine (EM1.out _ HY45.out).mono ?_); rintro e v46 ⟨rfl, hy, hb⟩; dsimp only)
      have HY46 := Lib.hid hy
      have HB46 := Lib.hid (HB45.out.trans hb)
      clear hy hb
      go_wp2
      go_ret
      exact ⟨⟨rfl, _, _, _, by have := HY46.out; rw [List.append_assoc] at this; exact this⟩, HB46.out⟩
end Go.Proofs.YtgmhigjhooihdaaGreatDoor

set_option linter.unusedVariables false
namespace Go.Proofs.YtgmhigjhooihdaaGreatDoor
open Go.RowKit Plain

/-- the lexer, with what its state's field holds -/
def LZ (B lb : Nat) (s : ByteArray) (V : Value) (pos start : Nat) (rs : List Nat) (its : List LI) (w : World) : Prop :=
  ∃ wd lp rv iv, w.heap[lb]? = some (lxC s V pos start wd lp rv iv) ∧ w.ownsRow B 21 1 rv rs.length (rs.map rcell) ∧ w.ownsRow B 169 3 iv its.length (itemsC its) ∧ (∃ g cap, rv = .slice (some ⟨g, 0, none⟩) rs.length cap) ∧ B ≤ lb
theorem LZ.ly {B lb pos start : Nat} {s : ByteArray} {V : Value} {rs : List Nat} {its : List LI} {w : World} (h : LZ B lb s V pos start rs its w) : LY B lb s pos start rs its w := by
  obtain ⟨wd, lp, rv, iv, h1, h2, h3, h4, h5⟩ := h
  exact ⟨wd, ⟨V, lp, rv, iv, h1, h2, h3, h4⟩, h5⟩
theorem LY.lz {B lb pos start : Nat} {s : ByteArray} {rs : List Nat} {its : List LI} {w : World} (h : LY B lb s pos start rs its w) (V : Value) : LZ B lb s V pos start rs its (w.setCell ⟨lb, 1, none⟩ V) := by
  obtain ⟨wd, ⟨⟨st, lp, rv, iv, h1, h2, h3, h4⟩, h5⟩⟩ := h
  exact ⟨wd, lp, rv, iv, (lx_set h1 1 V).trans rfl, row_set h2 h1 (by decide), row_set h3 h1 (by decide), h4, h5⟩
theorem LZ.cell {B lb pos start : Nat} {s : ByteArray} {V : Value} {rs : List Nat} {its : List LI} {w : World} (h : LZ B lb s V pos start rs its w) : w.cell? ⟨lb, 1, none⟩ = some V ∧ w.frozen? ⟨lb, 1, none⟩ = false := by
  obtain ⟨wd, lp, rv, iv, h1, _⟩ := h
  unfold lxC at h1
  simp [World.cell?, World.frozen?, h1]
theorem LY.froz {B lb pos start : Nat} {s : ByteArray} {rs : List Nat} {its : List LI} {w : World} (h : LY B lb s pos start rs its w) : w.frozen? ⟨lb, 1, none⟩ = false ∧ ∃ st, w.cell? ⟨lb, 1, none⟩ = some st := by
  obtain ⟨wd, ⟨⟨st, lp, rv, iv, h1, h2, h3, h4⟩, h5⟩⟩ := h
  exact ⟨(lx_cells h1).2.2.2.2.2.2.1, st, by simp [World.cell?, h1]⟩
theorem lexS_len (s : ByteArray) (nx : NX) (p : Nat) : (lexS s nx p).1.length ≤ 2 := by
  unfold lexS
  cases nx with
  | before => dsimp only; (repeat' split) <;> simp
  | comment => dsimp only; split <;> simp
  | key => dsimp only; split <;> (try simp) <;> (repeat' split) <;> simp
  | bval => simp
  | val => dsimp only; split <;> (try simp) <;> (repeat' split) <;> simp
theorem nxV_fn (x : NX) : ∃ fn, nxV x = .func fn #[] #[] := by cases x <;> exact ⟨_, rfl⟩
theorem neqF (fn : Fn) (w : World) : (binOp .neq 161 (.func fn #[] #[]) .nilFunc).run Tryz.prog w = .ok (.bool true) w := by kernel_rfl
theorem neqN (w : World) : (binOp .neq 161 .nilFunc .nilFunc).run Tryz.prog w = .ok (.bool false) w := by kernel_rfl
/-- where a run stands: a state that is next; or the end -/
def RunR (B lb : Nat) (s : ByteArray) (f : Nat) (w : World) : Prop :=
  (∃ nx p st its, LZ B lb s (nxV nx) p st [] its w ∧ (nx = .comment ∨ st = p) ∧ p ≤ s.size ∧ muN s nx p < f ∧ its ++ lexN s f nx p = lexL s ∧ its.length + 2 * f ≤ 850000)
  ∨ (∃ q st rs, LZ B lb s .nilFunc q st rs (lexL s) w)
theorem run_step {B lb f : Nat} {s : ByteArray} {nx : NX} {p : Nat} {its : List LI} {w w' : World} {e : Ending} (hp : p ≤ s.size) (hmu : muN s nx p < f + 1) (hl : its ++ lexN s (f + 1) nx p = lexL s) (hb : its.length + 2 * (f + 1) ≤ 850000) (h : StPost B lb s its (lexS s nx p) w e w') :
    ∃ V, e = .returned V ∧ (V = .nilFunc ∨ ∃ fn, V = .func fn #[] #[]) ∧ RunR B lb s f (w'.setCell ⟨lb, 1, none⟩ V) ∧ (∃ q st rs its', LY B lb s q st rs its' w') ∧ Below B w w' := by
  obtain ⟨h1, h2⟩ := h
  have hlen := lexS_len s nx p
  have hmu2 := lexS_mu s nx p hp
  unfold lexN at hl
  cases hr : (lexS s nx p).2 with
  | none =>
    rw [hr] at h1 hl
    obtain ⟨rfl, q, st, rs, hy⟩ := h1
    rw [List.append_nil] at hl
    rw [hl] at hy
    exact ⟨_, rfl, .inl rfl, .inr ⟨q, st, rs, hy.lz _⟩, ⟨q, st, rs, _, hy⟩, h2⟩
  | some x =>
    rw [hr] at h1 hl
    obtain ⟨rfl, st, hy, hst⟩ := h1
    have hm := hmu2 x hr
    refine ⟨_, rfl, .inr (nxV_fn x.1), .inl ⟨x.1, x.2, st, _, hy.lz _, hst, hm.2.1, by omega, ?_, ?_⟩, ⟨_, _, _, _, hy⟩, h2⟩
    · rw [List.append_assoc]; exact hl
    · rw [List.length_append]; omega
set_option maxHeartbeats 8000000 in
set_option maxRecDepth 100000 in
theorem run_any (B lb : Nat) (s : ByteArray) (w : World) (h : LY B lb s 0 0 [] [] w) (hs : s.size ≤ 100000) (hT : TabsL B w) :
    Calls Tryz.prog 110 #[.pointer (some ⟨lb, 0, none⟩)] w fun e w' => e = .returned (.tuple #[]) ∧ (∃ q st rs, LY B lb s q st rs (lexL s) w') ∧ Below B w w' := by
  have hlo : B ≤ lb := by obtain ⟨wd, h⟩ := h; exact h.lo
  have HT := Lib.hid hT
  have HB1 := Lib.hid (before_any B lb 0 0 s [] w h (by omega) (Nat.zero_le _) (by simp) hT rfl _ rfl)
  have HST := Lib.hid (fun e w' (k : StPost B lb s [] (lexS s .before 0) w e w') => run_step (B := B) (lb := lb) (f := 4 * s.size + 3) (s := s) (nx := .before) (p := 0) (its := []) (w := w) (w' := w') (e := e) (Nat.zero_le _) (by show 4 * (s.size - 0) + 3 < _; omega) (by rfl) (by simp; omega) k)
  clear h hT
  have hnF := neqF
  have hnN := neqN
  go_enter Tryz.func110, Tryz.ntmps110
  go_wp2_with (go_at_call 129; with_reducible refine HB1.out.mono ?_)
  intro e w1 hp1
  obtain ⟨V, rfl, hV, hR, ⟨q, st, rs, its', hy⟩, hb⟩ := HST.out e w1 hp1
  dsimp only
  obtain ⟨f1, st1, c1⟩ := hy.froz
  have HR := Lib.hid hR
  have HBB : Hid (Below B w (w1.setCell ⟨lb, 1, none⟩ V)) := Lib.hid (hb.setCell (p := ⟨lb, 1, none⟩) hlo V)
  clear hp1 hR hy hb HST HB1
  rcases hV with rfl | ⟨fn, rfl⟩
  all_goals
    go_wp2
    go_loopg [11] (4 * s.size + 4) (fun g bv wr => ∃ f, g = f + 1 ∧ f ≤ 4 * s.size + 3 ∧ Hid (RunR B lb s f wr) ∧ Hid (Below B w wr))
    case atStart => exact ⟨4 * s.size + 3, rfl, Nat.le_refl _, HR, HBB⟩
    case round =>
      clear HR HBB f1 c1
      obtain ⟨f, rfl, hf, HRR, HBR⟩ := hrel
      have hTr := HT.out.below HBR.out
      rcases HRR.out with ⟨nx, p, st, its, hz, hst, hp, hmu, hl, hb⟩ | ⟨q, st, rs, hz⟩
      · obtain ⟨cz, fz⟩ := hz.cell
        obtain ⟨f', rfl⟩ : ∃ f', f = f' + 1 := ⟨f - 1, by omega⟩
        have HLY := Lib.hid hz.ly
        have HST := Lib.hid (fun e w' (k : StPost B lb s its (lexS s nx p) wr e w') => run_step (B := B) (lb := lb) (f := f') (s := s) (nx := nx) (p := p) (its := its) (w := wr) (w' := w') (e := e) hp hmu hl hb k)
        have hil : its.length ≤ 900000 := by omega
        clear hz hl
        cases nx with
        | before =>
          have hst2 : st = p := by rcases hst with h | h; · cases h
                                   · exact h
          have HCC := Lib.hid (before_any B lb p st s its wr HLY.out (by omega) hp hil hTr hst2 _ rfl)
          have cz2 : wr.cell? ⟨lb, 1, none⟩ = some (.func (.func 129) #[] #[]) := cz
          clear cz hst hTr
          go_wp2_with (go_at_call 129; with_reducible refine HCC.out.mono ?_)
          intro e w1 hp1
          obtain ⟨V, rfl, hV, hR, ⟨q, st, rs, its', hy⟩, hbb⟩ := HST.out e w1 hp1
          dsimp only
          obtain ⟨f1, st1, c1⟩ := hy.froz
          have HR := Lib.hid hR
          have HBB : Hid (Below B w (w1.setCell ⟨lb, 1, none⟩ V)) := Lib.hid ((HBR.out.trans hbb).setCell (p := ⟨lb, 1, none⟩) hlo V)
          clear hp1 hR hy hbb HST HCC cz2
          rcases hV with rfl | ⟨fn, rfl⟩
          all_goals
            go_wp2
            go_roundg (f' + 1)
            case measure => omega
            case rel => exact ⟨f', rfl, by omega, HR, HBB⟩
        | comment =>
          have HCC := Lib.hid (comment_any B lb p st s its wr HLY.out (by omega) hp hil hTr _ rfl)
          have cz2 : wr.cell? ⟨lb, 1, none⟩ = some (.func (.func 146) #[] #[]) := cz
          clear cz hst hTr
          go_wp2_with (go_at_call 146; with_reducible refine HCC.out.mono ?_)
          intro e w1 hp1
          obtain ⟨V, rfl, hV, hR, ⟨q, st, rs, its', hy⟩, hbb⟩ := HST.out e w1 hp1
          dsimp only
          obtain ⟨f1, st1, c1⟩ := hy.froz
          have HR := Lib.hid hR
          have HBB : Hid (Below B w (w1.setCell ⟨lb, 1, none⟩ V)) := Lib.hid ((HBR.out.trans hbb).setCell (p := ⟨lb, 1, none⟩) hlo V)
          clear hp1 hR hy hbb HST HCC cz2
          rcases hV with rfl | ⟨fn, rfl⟩
          all_goals
            go_wp2
            go_roundg (f' + 1)
            case measure => omega
            case rel => exact ⟨f', rfl, by omega, HR, HBB⟩
        | key =>
          have hst2 : st = p := by rcases hst with h | h; · cases h
                                   · exact h
          have HCC := Lib.hid (key_any B lb p st s its wr HLY.out (by omega) hp hil hTr hst2 _ rfl)
          have cz2 : wr.cell? ⟨lb, 1, none⟩ = some (.func (.func 149) #[] #[]) := cz
          clear cz hst hTr
          go_wp2_with (go_at_call 149; with_reducible refine HCC.out.mono ?_)
          intro e w1 hp1
          obtain ⟨V, rfl, hV, hR, ⟨q, st, rs, its', hy⟩, hbb⟩ := HST.out e w1 hp1
          dsimp only
          obtain ⟨f1, st1, c1⟩ := hy.froz
          have HR := Lib.hid hR
          have HBB : Hid (Below B w (w1.setCell ⟨lb, 1, none⟩ V)) := Lib.hid ((HBR.out.trans hbb).setCell (p := ⟨lb, 1, none⟩) hlo V)
          clear hp1 hR hy hbb HST HCC cz2
          rcases hV with rfl | ⟨fn, rfl⟩
          all_goals
            go_wp2
            go_roundg (f' + 1)
            case measure => omega
            case rel => exact ⟨f', rfl, by omega, HR, HBB⟩
        | bval =>
          have hst2 : st = p := by rcases hst with h | h; · cases h
                                   · exact h
          have HCC := Lib.hid (bval_any B lb p st s its wr HLY.out (by omega) hp hil hTr _ rfl)
          have cz2 : wr.cell? ⟨lb, 1, none⟩ = some (.func (.func 157) #[] #[]) := cz
          clear cz hst hTr
          go_wp2_with (go_at_call 157; with_reducible refine HCC.out.mono ?_)
          intro e w1 hp1
          obtain ⟨V, rfl, hV, hR, ⟨q, st, rs, its', hy⟩, hbb⟩ := HST.out e w1 hp1
          dsimp only
          obtain ⟨f1, st1, c1⟩ := hy.froz
          have HR := Lib.hid hR
          have HBB : Hid (Below B w (w1.setCell ⟨lb, 1, none⟩ V)) := Lib.hid ((HBR.out.trans hbb).setCell (p := ⟨lb, 1, none⟩) hlo V)
          clear hp1 hR hy hbb HST HCC cz2
          rcases hV with rfl | ⟨fn, rfl⟩
          all_goals
            go_wp2
            go_roundg (f' + 1)
            case measure => omega
            case rel => exact ⟨f', rfl, by omega, HR, HBB⟩
        | val =>
          have hst2 : st = p := by rcases hst with h | h; · cases h
                                   · exact h
          have HCC := Lib.hid (val_any B lb p st s its wr HLY.out (by omega) hp hil hTr hst2 _ rfl)
          have cz2 : wr.cell? ⟨lb, 1, none⟩ = some (.func (.func 163) #[] #[]) := cz
          clear cz hst hTr
          go_wp2_with (go_at_call 163; with_reducible refine HCC.out.mono ?_)
          intro e w1 hp1
          obtain ⟨V, rfl, hV, hR, ⟨q, st, rs, its', hy⟩, hbb⟩ := HST.out e w1 hp1
          dsimp only
          obtain ⟨f1, st1, c1⟩ := hy.froz
          have HR := Lib.hid hR
          have HBB : Hid (Below B w (w1.setCell ⟨lb, 1, none⟩ V)) := Lib.hid ((HBR.out.trans hbb).setCell (p := ⟨lb, 1, none⟩) hlo V)
          clear hp1 hR hy hbb HST HCC cz2
          rcases hV with rfl | ⟨fn, rfl⟩
          all_goals
            go_wp2
            go_roundg (f' + 1)
            case measure => omega
            case rel => exact ⟨f', rfl, by omega, HR, HBB⟩
      · obtain ⟨cz, fz⟩ := hz.cell
        have HLY := Lib.hid hz.ly
        clear hz
        go_wp2
        go_end0
        exact ⟨rfl, ⟨_, _, _, HLY.out⟩, HBR.out⟩
end Go.Proofs.YtgmhigjhooihdaaGreatDoor

set_option linter.unusedVariables false
namespace Go.Proofs.YtgmhigjhooihdaaGreatDoor
open Go.RowKit Plain

def LexPost (s : ByteArray) (w : World) (e : Ending) (w' : World) : Prop := ∃ lb q st rs, e = .returned (.pointer (some ⟨lb, 0, none⟩)) ∧ LY w.heap.size lb s q st rs (lexL s) w' ∧ Below w.heap.size w w'
set_option maxHeartbeats 4000000 in
set_option maxRecDepth 100000 in
theorem lex_any (s : ByteArray) (w : World) (hs : s.size ≤ 100000) (hT : Tabs w) :
    Calls Tryz.prog 94 #[.string s] w (LexPost s w) := by
  unfold LexPost
  obtain ⟨i0, hi, hz0, hz1, hz2⟩ := info_parts infoRune
  have HT := Lib.hid hT
  go_enter Tryz.func94, Tryz.ntmps94
  go_wp2_with (at_make; refine wpList_make_own _ rfl _ _ 133 rfl w.heap.size 21 i0 (.int .i32 0) 1 Tryz.underlying133 hi hz0 hz1 .i64 .i64 32 32 rfl rfl rfl (by omega) (by unfold maxLen; omega) (Nat.le_refl _) ?_)
  intro w1 hown hgr
  have hb1 : Below w.heap.size w w1 := (Below.refl _ w).grown hgr (Nat.le_refl _) (fun g hg => by cases hg)
  obtain ⟨W2, hW2⟩ : ∃ W2, w1.alloc (.cells #[.string s, .nilFunc, .int .i64 0, .int .i64 0, .int .i64 0, .int .i64 0, .slice (some ⟨w.heap.size, 0, none⟩) 0 32, .slice none 0 0] 164) = W2 := ⟨_, rfl⟩
  obtain ⟨lb, hlb⟩ : ∃ lb, w1.heap.size = lb := ⟨_, rfl⟩
  have hx : W2.heap[lb]? = some (lxC s .nilFunc 0 0 0 0 (.slice (some ⟨w.heap.size, 0, none⟩) 0 32) (.slice none 0 0)) := by rw [← hW2, ← hlb]; exact heap_alloc_new w1 _
  have hb2 : Below w.heap.size w W2 := by rw [← hW2]; exact hb1.alloc hb1.size _
  have HLY : Hid (LY w.heap.size lb s 0 0 [] [] W2) := Lib.hid ⟨0, ⟨.nilFunc, 0, _, _, hx, by rw [← hW2]; exact row_keep hown (fun g hg => Below.heap_alloc w1 _ g (row_lt hown hg).2), ⟨rfl, .inl ⟨rfl, rfl⟩⟩, ⟨_, _, rfl⟩⟩, by rw [← hlb]; exact hb1.size⟩
  have HB2 := Lib.hid hb2
  have HRUN := Lib.hid (run_any w.heap.size lb s W2 HLY.out hs (tabsL_of HT.out hb2))
  clear hown hgr hb1 hx hb2 hi hz0 hz1 hz2
  go_wp2_with (go_at_call 110; (try rw [hW2, hlb]); with_reducible refine HRUN.out.mono ?_)
  rintro e w3 ⟨rfl, ⟨q, st, rs, hy⟩, hb⟩
  dsimp only
  have HY := Lib.hid hy
  have HB3 := Lib.hid (HB2.out.trans hb)
  clear hy hb
  go_wp2
  go_ret
  exact ⟨lb, q, st, rs, rfl, HY.out, HB3.out⟩
end Go.Proofs.YtgmhigjhooihdaaGreatDoor

set_option linter.unusedVariables false
namespace Go.Proofs.YtgmhigjhooihdaaGreatDoor
open Go.RowKit Plain

/-- three cells of an item at an address -/
def ItemAt (g o : Nat) (x : LI) (w : World) : Prop := w.cell? ⟨g, o, none⟩ = some (.int .i64 (x.kind : Int)) ∧ w.cell? ⟨g, o + 1, none⟩ = some (.int .i64 (x.pos : Int)) ∧ w.cell? ⟨g, o + 2, none⟩ = some (.string x.text)
def itemV (x : LI) : Value := .agg #[.int .i64 (x.kind : Int), .int .i64 (x.pos : Int), .string x.text]
def NItem (lb : Nat) (s : ByteArray) (x : LI) (g o m c : Nat) (w : World) (e : Ending) (w' : World) : Prop :=
  e = .returned (itemV x) ∧ KeepB lb w w' ∧ (∀ B, B ≤ lb → B ≤ w.heap.size → Below B w w') ∧ ∃ st pos start wd lp rv iv, w'.heap[lb]? = some (lxC s st pos start wd lp rv iv) ∧ (0 < m → iv = .slice (some ⟨g, o + 3, none⟩) m (c - 1))
set_option maxHeartbeats 4000000 in
set_option maxRecDepth 100000 in
theorem nextItem_any (lb : Nat) (s : ByteArray) (x : LI) (g o m c : Nat) (st : Value) (pos start wd : Nat) (lp : Int) (rv : Value) (w : World) (h : w.heap[lb]? = some (lxC s st pos start wd lp rv (.slice (some ⟨g, o, none⟩) (m + 1) c))) (hx : ItemAt g o x w) (hc : m + 1 ≤ c) (hc2 : c ≤ 9223372036854775807) :
    Calls Tryz.prog 113 #[.pointer (some ⟨lb, 0, none⟩)] w (NItem lb s x g o m c w) := by
  unfold NItem
  obtain ⟨x0, x1, x2⟩ := hx
  have hlt : lb < w.heap.size := (Array.getElem?_eq_some_iff.1 h).1
  have hgl : g < w.heap.size := Lib.lt_of_cell x0
  have H1 := Lib.hid h
  have h' : w.heap[lb]? = some (.cells #[.string s, st, .int .i64 (pos : Int), .int .i64 (start : Int), .int .i64 (wd : Int), .int .i64 lp, rv, .slice (some ⟨g, o, none⟩) (m + 1) c] 164 (0, 0)) := h
  have c7 : w.cell? ⟨lb, 7, none⟩ = some (.slice (some ⟨g, o, none⟩) (m + 1) c) := by simp [World.cell?, h']
  have c5 : w.cell? ⟨lb, 5, none⟩ = some (.int .i64 lp) := by simp [World.cell?, h']
  have f5 : w.frozen? ⟨lb, 5, none⟩ = false := by simp [World.frozen?, h']
  have f7 : w.frozen? ⟨lb, 7, none⟩ = false := by simp [World.frozen?, h']
  obtain ⟨K, hK⟩ : ∃ K : Int, (x.kind : Int) = K := ⟨_, rfl⟩
  obtain ⟨P, hP⟩ : ∃ P : Int, (x.pos : Int) = P := ⟨_, rfl⟩
  obtain ⟨T, hT⟩ : ∃ T, x.text = T := ⟨_, rfl⟩
  have hv : itemV x = .agg #[.int .i64 K, .int .i64 P, .string T] := by unfold itemV; rw [hK, hP, hT]
  rw [hv]
  rw [hK] at x0
  rw [hP] at x1
  rw [hT] at x2
  clear h h' hv hK hP hT
  have hKK : KeepB lb w w := KeepB.of (Below.refl _ w)
  by_cases h1 : c = 1
  · have hm0 : m = 0 := by omega
    subst h1
    subst hm0
    go_enter Tryz.func113, Tryz.ntmps113
    go_wp2
    refine bodyPost_ret (v := .agg #[.int .i64 K, .int .i64 P, .string T]) (by simp [results, Tryz.results113, go_sem]) rfl ?_
    have h9 := ((hKK.set 7 (.slice (some ⟨g, o, none⟩) 0 0)).set 5 (.int .i64 P))
    have hs1 := lx_set (i := 7) (u := (.slice (some ⟨g, o, none⟩) 0 0)) H1.out
    have hs2 := lx_set (i := 5) (u := .int .i64 P) hs1
    have hz : ((w.setCell ⟨lb, 7, none⟩ (.slice (some ⟨g, o, none⟩) 0 0)).setCell ⟨lb, 5, none⟩ (.int .i64 P)).heap.size = w.heap.size := by simp [World.setCell]
    refine ⟨rfl, ⟨by simp [World.setCell]; omega, fun j hj hn => ?_⟩, fun B hB hB2 => ((((Below.refl B w).setCell (p := ⟨lb, 7, none⟩) hB (.slice (some ⟨g, o, none⟩) 0 0)).setCell (p := ⟨lb, 5, none⟩) hB (.int .i64 P)).alloc (by rw [hz]; exact hB2) _).alloc (by simp [World.setCell]; omega) _, st, pos, start, wd, P, rv, .slice (some ⟨g, o, none⟩) 0 0, ?_, fun h => absurd h (by omega)⟩
    · rw [Below.heap_alloc _ _ _ (by simp; omega), Below.heap_alloc _ _ _ (by simp; omega)]
      exact h9.2 j hj hn
    · rw [Below.heap_alloc _ _ _ (by simp; omega), Below.heap_alloc _ _ _ (by simp; omega)]
      exact hs2.trans rfl
  · have hc1 : (1 : Int) < (c : Int) := by omega
    have hcz : ((m : Int) + 1) ≤ (c : Int) := by omega
    go_enter Tryz.func113, Tryz.ntmps113
    go_wp2
    refine bodyPost_ret (v := .agg #[.int .i64 K, .int .i64 P, .string T]) (by simp [results, Tryz.results113, go_sem]) rfl ?_
    have h9 := ((hKK.set 7 (.slice (some ⟨g, o + 3, none⟩) m (c - 1))).set 5 (.int .i64 P))
    have hs1 := lx_set (i := 7) (u := (.slice (some ⟨g, o + 3, none⟩) m (c - 1))) H1.out
    have hs2 := lx_set (i := 5) (u := .int .i64 P) hs1
    have hz : ((w.setCell ⟨lb, 7, none⟩ (.slice (some ⟨g, o + 3, none⟩) m (c - 1))).setCell ⟨lb, 5, none⟩ (.int .i64 P)).heap.size = w.heap.size := by simp [World.setCell]
    refine ⟨rfl, ⟨by simp [World.setCell]; omega, fun j hj hn => ?_⟩, fun B hB hB2 => ((((Below.refl B w).setCell (p := ⟨lb, 7, none⟩) hB (.slice (some ⟨g, o + 3, none⟩) m (c - 1))).setCell (p := ⟨lb, 5, none⟩) hB (.int .i64 P)).alloc (by rw [hz]; exact hB2) _).alloc (by simp [World.setCell]; omega) _, st, pos, start, wd, P, rv, .slice (some ⟨g, o + 3, none⟩) m (c - 1), ?_, fun _ => rfl⟩
    · rw [Below.heap_alloc _ _ _ (by simp; omega), Below.heap_alloc _ _ _ (by simp; omega)]
      exact h9.2 j hj hn
    · rw [Below.heap_alloc _ _ _ (by simp; omega), Below.heap_alloc _ _ _ (by simp; omega)]
      exact hs2.trans rfl
end Go.Proofs.YtgmhigjhooihdaaGreatDoor

set_option linter.unusedVariables false
namespace Go.Proofs.YtgmhigjhooihdaaGreatDoor
open Go.RowKit Plain

/-- a panic with a new error -/
def PanErr (w : World) (e : Ending) (w' : World) : Prop := ∃ N : Nat, e = .panicked [{ v := .iface 196 (.pointer (some ⟨N, 0, none⟩)), recovered := false }] ∧ Below w.heap.size w w'
set_option maxRecDepth 100000 in
theorem unexpected_any (p : Value) (w : World) : Calls Tryz.prog 114 #[p] w (PanErr w) := by
  unfold PanErr
  have HE := Lib.hid (newErr_any ⟨#[117, 110, 101, 120, 112, 101, 99, 116, 101, 100, 32, 116, 111, 107, 101, 110]⟩ w)
  go_enter Tryz.func114, Tryz.ntmps114
  go_wp2_with (go_at_call 106; (with_reducible refine HE.out.mono ?_); rintro e w1 ⟨N, rfl, hc, hb⟩; dsimp only)
  have HB := Lib.hid hb
  clear hb hc
  go_wp2
  exact ⟨rfl, N, rfl, HB.out⟩
/-- a row of kinds -/
def KindsAt (E : Nat) (es : List Nat) (w : World) : Prop := ∀ (i k : Nat), es[i]? = some k → w.cell? ⟨E, i, none⟩ = some (.int .i64 (k : Int))
def EItem (lb : Nat) (s : ByteArray) (x : LI) (g o m c : Nat) (w : World) (e : Ending) (w' : World) : Prop :=
  e = .returned (itemV x) ∧ KeepB lb w w' ∧ (∀ B, B ≤ lb → B ≤ w.heap.size → Below B w w') ∧ ∃ st pos start wd lp rv iv, w'.heap[lb]? = some (lxC s st pos start wd lp rv iv) ∧ (0 < m → iv = .slice (some ⟨g, o + 3, none⟩) m (c - 1))
def EBad (lb : Nat) (w : World) (e : Ending) (w' : World) : Prop := ∃ N : Nat, e = .panicked [{ v := .iface 196 (.pointer (some ⟨N, 0, none⟩)), recovered := false }] ∧ KeepB lb w w' ∧ (∀ B, B ≤ lb → B ≤ w.heap.size → Below B w w')
set_option maxHeartbeats 4000000 in
set_option maxRecDepth 100000 in
theorem expect_any (q lb : Nat) (s : ByteArray) (x : LI) (g o m c E : Nat) (es : List Nat) (ne : Nat) (hne : es.length = ne) (st : Value) (pos start wd : Nat) (lp : Int) (rv : Value) (w : World) (h : w.heap[lb]? = some (lxC s st pos start wd lp rv (.slice (some ⟨g, o, none⟩) (m + 1) c))) (hq : w.cell? ⟨q, 0, none⟩ = some (.pointer (some ⟨lb, 0, none⟩))) (hE : KindsAt E es w) (hEl : lb ≠ E) (hEs : E < w.heap.size) (hx : ItemAt g o x w) (hc : m + 1 ≤ c) (hc2 : c ≤ 9223372036854775807) (hn : ne ≤ 10) :
    Calls Tryz.prog 101 #[.pointer (some ⟨q, 0, none⟩), .slice (some ⟨E, 0, none⟩) ne ne] w fun e w' => (x.kind ∈ es → EItem lb s x g o m c w e w') ∧ (¬ x.kind ∈ es → EBad lb w e w') := by
  have HNX := Lib.hid (fun w' (hb : Below w.heap.size w w') => nextItem_any lb s x g o m c st pos start wd lp rv w' ((hb.block lb (Array.getElem?_eq_some_iff.1 h).1).trans h) ⟨(hb.cell (Lib.lt_of_cell hx.1)).trans hx.1, (hb.cell (Lib.lt_of_cell hx.2.1)).trans hx.2.1, (hb.cell (Lib.lt_of_cell hx.2.2)).trans hx.2.2⟩ hc hc2)
  have HE := Lib.hid hE
  have HNE := Lib.hid hne
  have hlw := (Array.getElem?_eq_some_iff.1 h).1
  have HK0 : Hid (KeepB lb w (w.alloc (.cells #[.int .i64 0, .int .i64 0, .string ⟨#[]⟩] 169))) := Lib.hid (KeepB.of ((Below.refl _ w).alloc (Nat.le_refl _) _))
  have HB0 : Hid (Below w.heap.size w (w.alloc (.cells #[.int .i64 0, .int .i64 0, .string ⟨#[]⟩] 169))) := Lib.hid ((Below.refl _ w).alloc (Nat.le_refl _) _)
  obtain ⟨K, hK⟩ : ∃ K : Int, (x.kind : Int) = K := ⟨_, rfl⟩
  obtain ⟨P, hP⟩ : ∃ P : Int, (x.pos : Int) = P := ⟨_, rfl⟩
  obtain ⟨T, hT⟩ : ∃ T, x.text = T := ⟨_, rfl⟩
  have hv : itemV x = .agg #[.int .i64 K, .int .i64 P, .string T] := by unfold itemV; rw [hK, hP, hT]
  have HV := Lib.hid hv
  have HKK := Lib.hid hK
  obtain ⟨D, hD⟩ : ∃ D, w.heap.size = D := ⟨_, rfl⟩
  have hqa : ∀ o, (w.alloc o).cell? ⟨q, 0, none⟩ = some (.pointer (some ⟨lb, 0, none⟩)) := fun o => (((Below.refl w.heap.size w).alloc (Nat.le_refl _) o).cell (Lib.lt_of_cell hq)).trans hq
  have HEX : Hid (∀ j k : Nat, es[j]? = some k → E < D ∧ E ≠ lb ∧ w.cell? ⟨E, j, none⟩ = some (.int .i64 (k : Int))) := Lib.hid (fun j k hj => ⟨hD ▸ hEs, fun e => hEl e.symm, hE j k hj⟩)
  have hlD : lb < D := hD ▸ hlw
  have hDs : (w.alloc (.cells #[.int .i64 0, .int .i64 0, .string ⟨#[]⟩] 169)).heap.size = D + 1 := by simp [hD]
  have hDb : (w.alloc (.cells #[.int .i64 0, .int .i64 0, .string ⟨#[]⟩] 169)).heap[D]? = some (.cells #[.int .i64 0, .int .i64 0, .string ⟨#[]⟩] 169 (0, 0)) := by rw [← hD]; exact heap_alloc_new w _
  have HDS := Lib.hid hDs
  have HDB := Lib.hid hDb
  have HDD := Lib.hid hD
  clear h hE hne hx hv hK hP hT hD hDs hDb hq
  go_enter Tryz.func101, Tryz.ntmps101
  go_wp2_with (go_at_call 113; (with_reducible refine (HNX.out _ HB0.out).mono ?_); rintro e w1 ⟨rfl, hk, hbw, st', pos', start', wd', lp', rv', iv', ha, hiv⟩; rw [HV.out]; (try rw [HDD.out]); have hd1 : w1.heap[D]? = some (.cells #[.int .i64 0, .int .i64 0, .string ⟨#[]⟩] 169 (0, 0)) := (hk.2 D (by rw [HDS.out]; omega) (by omega)).trans HDB.out; have k0 : w1.cell? ⟨D, 0, none⟩ = some (.int .i64 0) := (by simp [World.cell?, hd1]); have k1 : w1.cell? ⟨D, 1, none⟩ = some (.int .i64 0) := (by simp [World.cell?, hd1]); have k2 : w1.cell? ⟨D, 2, none⟩ = some (.string ⟨#[]⟩) := (by simp [World.cell?, hd1]); have k3 : w1.frozen? ⟨D, 0, none⟩ = false := (by simp [World.frozen?, hd1]); have k4 : w1.frozen? ⟨D, 1, none⟩ = false := (by simp [World.frozen?, hd1]); have k5 : w1.frozen? ⟨D, 2, none⟩ = false := (by simp [World.frozen?, hd1]); dsimp only)
  obtain ⟨W2, hW2⟩ : ∃ W2, ((w1.setCell ⟨D, 0, none⟩ (.int .i64 K)).setCell ⟨D, 1, none⟩ (.int .i64 P)).setCell ⟨D, 2, none⟩ (.string T) = W2 := ⟨_, rfl⟩
  have hd2 : W2.heap[D]? = some (.cells #[.int .i64 K, .int .i64 P, .string T] 169 (0, 0)) := by rw [← hW2]; exact (lx_set (lx_set (lx_set hd1 0 (.int .i64 K)) 1 (.int .i64 P)) 2 (.string T)).trans rfl
  have h2j : ∀ j, j ≠ D → W2.heap[j]? = w1.heap[j]? := fun j hj => by rw [← hW2]; exact ((Below.heap_setCell _ _ _ _ hj).trans (Below.heap_setCell _ _ _ _ hj)).trans (Below.heap_setCell _ _ _ _ hj)
  have h2s : W2.heap.size = w1.heap.size := by rw [← hW2]; simp [World.setCell]
  have hkw : KeepB lb w w1 := HK0.out.trans hk
  have HK2 : Hid (KeepB lb w W2) := Lib.hid ⟨by rw [h2s]; exact hkw.1, fun j hj hn => (h2j j (by have := HDD.out; omega)).trans (hkw.2 j hj hn)⟩
  have HA2 : Hid (W2.heap[lb]? = some (lxC s st' pos' start' wd' lp' rv' iv')) := Lib.hid ((h2j lb (by omega)).trans ha)
  have HIV := Lib.hid hiv
  have HBW : Hid (∀ B, B ≤ lb → B ≤ w.heap.size → Below B w W2) := Lib.hid (fun B h1 h2 => by
    rw [← hW2]
    have q1 : Below B w w1 := ((Below.refl B w).alloc h2 _).trans (hbw B h1 (by rw [HDS.out]; have := HDD.out; omega))
    have q2 : B ≤ D := by have := HDD.out; omega
    exact ((q1.setCell (p := ⟨D, 0, none⟩) q2 _).setCell (p := ⟨D, 1, none⟩) q2 _).setCell (p := ⟨D, 2, none⟩) q2 _)
  have HD2 := Lib.hid hd2
  have HE2 : Hid (∀ j k : Nat, es[j]? = some k → W2.cell? ⟨E, j, none⟩ = some (.int .i64 (k : Int))) := Lib.hid (fun j k hj => by
    obtain ⟨h1, h2, h3⟩ := HEX.out j k hj
    have hb : W2.heap[E]? = w.heap[E]? := (h2j E (by omega)).trans (hkw.2 E (by have := HDD.out; omega) h2)
    unfold World.cell? at h3 ⊢
    rw [hb]
    exact h3)
  rw [hW2]
  have z0 : W2.cell? ⟨D, 0, none⟩ = some (.int .i64 K) := by simp [World.cell?, hd2]
  have z1 : W2.cell? ⟨D, 1, none⟩ = some (.int .i64 P) := by simp [World.cell?, hd2]
  have z2 : W2.cell? ⟨D, 2, none⟩ = some (.string T) := by simp [World.cell?, hd2]
  have y0 : W2.frozen? ⟨D, 0, none⟩ = false := by simp [World.frozen?, hd2]
  have y1 : W2.frozen? ⟨D, 1, none⟩ = false := by simp [World.frozen?, hd2]
  have y2 : W2.frozen? ⟨D, 2, none⟩ = false := by simp [World.frozen?, hd2]
  clear hd1 k0 k1 k2 k3 k4 k5 hW2 hd2 h2j h2s hkw hk ha hiv HNX hqa hbw
  go_loopg [14] ne (fun g iv wr => ∃ i : Nat, iv = .int .i64 i ∧ i ≤ ne ∧ g = ne - i ∧ Hid (∀ j k : Nat, j < i → es[j]? = some k → k ≠ x.kind) ∧ W2 = wr)
  case atStart => exact ⟨0, rfl, Nat.zero_le _, rfl, Lib.hid (fun j k hj => by omega), rfl⟩
  case round =>
    obtain ⟨i, rfl, hi, rfl, HNO, rfl⟩ := hrel
    by_cases hin : i < ne
    · have hiz : (i : Int) < (ne : Int) := by omega
      have hil : i < es.length := by rw [HNE.out]; exact hin
      obtain ⟨k, hk⟩ : ∃ k, es[i]? = some k := ⟨_, List.getElem?_eq_getElem hil⟩
      have hce := HE2.out i k hk
      have HKI := Lib.hid hk
      by_cases he : k = x.kind
      · have hkk : (k : Int) = K := by rw [he]; exact HKK.out
        have HMEM : Hid (x.kind ∈ es) := Lib.hid (he ▸ List.mem_of_getElem? hk)
        rw [hkk] at hce
        clear hk he hkk
        go_wp2
        obtain ⟨W3, hW3⟩ : ∃ W3, ((W2.setCell ⟨D, 0, none⟩ (.int .i64 K)).setCell ⟨D, 1, none⟩ (.int .i64 P)).setCell ⟨D, 2, none⟩ (.string T) = W3 := ⟨_, rfl⟩
        have hd3 : W3.heap[D]? = some (.cells #[.int .i64 K, .int .i64 P, .string T] 169 (0, 0)) := by rw [← hW3]; exact (lx_set (lx_set (lx_set HD2.out 0 (.int .i64 K)) 1 (.int .i64 P)) 2 (.string T)).trans rfl
        have h3j : ∀ j, j ≠ D → W3.heap[j]? = W2.heap[j]? := fun j hj => by rw [← hW3]; exact ((Below.heap_setCell _ _ _ _ hj).trans (Below.heap_setCell _ _ _ _ hj)).trans (Below.heap_setCell _ _ _ _ hj)
        have h3s : W3.heap.size = W2.heap.size := by rw [← hW3]; simp [World.setCell]
        rw [hW3]
        have r0 : W3.cell? ⟨D, 0, none⟩ = some (.int .i64 K) := by simp [World.cell?, hd3]
        have r1 : W3.cell? ⟨D, 1, none⟩ = some (.int .i64 P) := by simp [World.cell?, hd3]
        have r2 : W3.cell? ⟨D, 2, none⟩ = some (.string T) := by simp [World.cell?, hd3]
        refine bodyPost_ret (v := .agg #[.int .i64 K, .int .i64 P, .string T]) (by simp [results, Tryz.results101, go_sem, r0, r1, r2]) rfl ?_
        refine ⟨fun _ => ⟨by rw [HV.out], ⟨by rw [h3s]; exact HK2.out.1, fun j hj hn => (h3j j (by have := HDD.out; omega)).trans (HK2.out.2 j hj hn)⟩, fun B h1 h2 => by rw [← hW3]; have q2 : B ≤ D := (by have := HDD.out; omega); exact (((HBW.out B h1 h2).setCell (p := ⟨D, 0, none⟩) q2 _).setCell (p := ⟨D, 1, none⟩) q2 _).setCell (p := ⟨D, 2, none⟩) q2 _, st', pos', start', wd', lp', rv', iv', (h3j lb (by omega)).trans HA2.out, HIV.out⟩, fun h => absurd HMEM.out h⟩
      · have hne2 : (K == (k : Int)) = false := by rw [beq_eq_false_iff_ne, ← HKK.out]; omega
        have HNO2 : Hid (∀ j k : Nat, j < i + 1 → es[j]? = some k → k ≠ x.kind) := Lib.hid (fun j k' hj hjk => by
          by_cases hji : j < i
          · exact HNO.out j k' hji hjk
          · obtain rfl : j = i := by omega
            rw [HKI.out] at hjk
            obtain rfl := Option.some.inj hjk
            exact he)
        clear hk he
        go_wp2
        go_roundg (ne - (i + 1))
        case measure => omega
        case rel => exact ⟨i + 1, by go_num, by omega, rfl, HNO2, rfl⟩
    · have hiz : ¬ (i : Int) < (ne : Int) := by omega
      have HUN := Lib.hid (unexpected_any (.pointer (some ⟨q, 0, none⟩)) W2)
      go_wp2_with (go_at_call 114; (with_reducible refine HUN.out.mono ?_); rintro e w4 ⟨N, rfl, hb4⟩)
      have hnot : ¬ x.kind ∈ es := fun h => by
        obtain ⟨j, hj⟩ := List.getElem?_of_mem h
        have hjl := (List.getElem?_eq_some_iff.1 hj).1
        exact HNO.out j x.kind (by have := HNE.out; omega) hj rfl
      exact ⟨rfl, fun h => absurd h hnot, fun _ => ⟨N, rfl, HK2.out.trans (KeepB.of hb4), fun B h1 h2 => (HBW.out B h1 h2).trans (hb4.mono (Nat.le_trans h2 HK2.out.1))⟩⟩
end Go.Proofs.YtgmhigjhooihdaaGreatDoor

set_option linter.unusedVariables false
namespace Go.Proofs.YtgmhigjhooihdaaGreatDoor
open Go.RowKit Plain Go.Maps

/-- an element as it stands -/
def rawR (v : Value) : Option (DataW Value × List MemPlace) := some (.held v, [])
abbrev MpC (w : World) (mc n : Nat) (DC : DataW Value) : Prop := w.ownsMap Tryz.prog 9 rawR mc n DC
theorem mpc_keep {w w' : World} {mb n : Nat} {D : DataW Value} (h : MpC w mb n D) (e : w'.heap[mb]? = w.heap[mb]?) : MpC w' mb n D := by
  obtain ⟨es, clock, hb, r⟩ := h
  exact ⟨es, clock, e.trans hb, r⟩
theorem mpc_is {w : World} {mb n : Nat} {D : DataW Value} (h : MpC w mb n D) : ∃ es c, w.heap[mb]? = some (.map es c) := by
  obtain ⟨es, clock, hb, r⟩ := h
  exact ⟨es, clock, hb⟩
theorem map_lt {w : World} {k : Nat} (h : ∃ es c, w.heap[k]? = some (.map es c)) : k < w.heap.size := by
  obtain ⟨es, c, h⟩ := h
  exact (Array.getElem?_eq_some_iff.1 h).1
/-- properties at 'pb' -/
structure PQ (B pb mb mc n nc : Nat) (p : PSt) (DC : DataW Value) (lv : Value) (w : World) : Prop where
  blk : w.heap[pb]? = some (.cells #[.string ⟨#[36, 123]⟩, .string ⟨#[125]⟩, .bool false, .map (some mb), .map (some mc), lv, .string ⟨#[]⟩] 65 (0, 0))
  mp : MpS w mb n p.D
  cp : MpC w mc nc DC
  row : w.ownsRow B 9 1 lv p.ks.length (p.ks.map Value.string)
  lo : B ≤ pb ∧ B ≤ mb ∧ B ≤ mc ∧ mb ≠ mc
/-- what the comments' map holds -/
def CRel (B : Nat) (DC : DataW Value) (cf : ByteArray → Option (List ByteArray)) (lv cmv : Value) (w : World) : Prop :=
  ∀ k : ByteArray, (cf k = none → Maps.has DC (keyL8 k) = false) ∧ (∀ l, cf k = some l → ∃ v, Maps.has DC (keyL8 k) = true ∧ DC.atKey (keyL8 k) (.held (.slice none 0 0)) = .held v ∧ w.ownsRow B 9 1 v l.length (l.map Value.string) ∧ ∀ g, v.ownBlock = some g → lv.ownBlock ≠ some g ∧ cmv.ownBlock ≠ some g)
theorem row_cells {w : World} {base sz : Nat} {e : TypeId} {v : Value} {n : Nat} {xs : List Value} (h : w.ownsRow base e sz v n xs) {g : Nat} (hg : v.ownBlock = some g) : ∃ cs, w.heap[g]? = some (.cells cs e (0, 0)) := by
  rcases h.2 with ⟨hv, _⟩ | ⟨g', cap, cur, hv, h1, h2, h3⟩
  · rw [hv] at hg; cases hg
  · rw [hv] at hg
    obtain rfl : g' = g := Option.some.inj hg
    exact ⟨_, h2⟩
/-- the world goes on: what is neither the keys' row nor the row of comments is kept -/
theorem CRel.keep {B : Nat} {DC : DataW Value} {cf : ByteArray → Option (List ByteArray)} {lv cmv lv' cmv' : Value} {w w' : World} (h : CRel B DC cf lv cmv w)
    (hk : ∀ (g : Nat) (cs : Array Value), w.heap[g]? = some (.cells cs 9 (0, 0)) → lv.ownBlock ≠ some g → cmv.ownBlock ≠ some g → w'.heap[g]? = w.heap[g]?)
    (h1 : lv'.ownBlock = lv.ownBlock ∨ ∀ g, lv'.ownBlock = some g → w.heap.size ≤ g) (h2 : cmv'.ownBlock = cmv.ownBlock ∨ ∀ g, cmv'.ownBlock = some g → w.heap.size ≤ g) : CRel B DC cf lv' cmv' w' := by
  intro k
  obtain ⟨ha, hb⟩ := h k
  refine ⟨ha, fun l hl => ?_⟩
  obtain ⟨v, v1, v2, v3, v4⟩ := hb l hl
  refine ⟨v, v1, v2, row_keep v3 (fun g hg => ?_), fun g hg => ?_⟩
  · obtain ⟨cs, hcs⟩ := row_cells v3 hg
    exact hk g cs hcs (v4 g hg).1 (v4 g hg).2
  · have hlt := (row_lt v3 hg).2
    constructor
    · rcases h1 with h1 | h1
      · rw [h1]; exact (v4 g hg).1
      · intro e; have := h1 g e; omega
    · rcases h2 with h2 | h2
      · rw [h2]; exact (v4 g hg).2
      · intro e; have := h2 g e; omega
theorem CRel.zero (B : Nat) (lv cmv : Value) (w : World) : CRel B (.map []) (fun _ => none) lv cmv w := by
  intro k
  exact ⟨fun _ => rfl, fun l hl => by cases hl⟩
theorem keyL8_inj {a b : ByteArray} (h : keyL8 a = keyL8 b) : a = b := by
  unfold keyL8 at h
  injection h with h
  exact ByteArray.ext (Array.toList_inj.1 h)
/-- comments are stored at a key; the row of comments is another one then -/
theorem CRel.store {B nc : Nat} {DC : DataW Value} {cf : ByteArray → Option (List ByteArray)} {lv cmv cmv' : Value} {w w' : World} {k : ByteArray} {cm : List ByteArray} {mc : Nat} (h : CRel B DC cf lv cmv w) (hm : MpC w mc nc DC)
    (hrow : w.ownsRow B 9 1 cmv cm.length (cm.map Value.string)) (hne : ∀ g, cmv.ownBlock = some g → lv.ownBlock ≠ some g)
    (hk : ∀ (g : Nat) (cs : Array Value), w.heap[g]? = some (.cells cs 9 (0, 0)) → w'.heap[g]? = w.heap[g]?) (h2 : ∀ g, cmv'.ownBlock = some g → w.heap.size ≤ g) : CRel B (DC.put (keyL8 k) (.held cmv)) (updC cf k cm) lv cmv' w' := by
  have hIM : IsMap DC := by obtain ⟨es, clock, _, _, _, hD⟩ := hm; exact ⟨_, hD⟩
  intro x
  unfold updC
  by_cases hx : x = k
  · subst hx
    rw [if_pos rfl]
    refine ⟨fun e => (by cases e), fun l hl => ?_⟩
    injection hl with hl
    subst hl
    refine ⟨cmv, ?_, ?_, row_keep hrow (fun g hg => ?_), fun g hg => ⟨hne g hg, fun e => ?_⟩⟩
    · exact has_put_same (k := keyL8 x) hIM (by unfold keyL8; trivial) _
    · exact atKey_put_same (k := keyL8 x) hIM (by unfold keyL8; trivial) _ _
    · obtain ⟨cs, hcs⟩ := row_cells hrow hg
      exact hk g cs hcs
    · have := h2 g e; have := (row_lt hrow hg).2; omega
  · rw [if_neg hx]
    obtain ⟨ha, hb⟩ := h x
    refine ⟨fun e => ?_, fun l hl => ?_⟩
    · rw [has_put_other (fun e => hx (keyL8_inj e))]; exact ha e
    · obtain ⟨v, v1, v2, v3, v4⟩ := hb l hl
      refine ⟨v, ?_, ?_, row_keep v3 (fun g hg => ?_), fun g hg => ⟨(v4 g hg).1, fun e => ?_⟩⟩
      · rw [has_put_other (fun e => hx (keyL8_inj e))]; exact v1
      · rw [atKey_put_other (fun e => hx (keyL8_inj e))]; exact v2
      · obtain ⟨cs, hcs⟩ := row_cells v3 hg
        exact hk g cs hcs
      · have := h2 g e; have := (row_lt v3 hg).2; omega
def NewPQ (w : World) (e : Ending) (w' : World) : Prop := ∃ pb mb mc lv, e = .returned (.pointer (some ⟨pb, 0, none⟩)) ∧ PQ w.heap.size pb mb mc 0 0 pst0 (.map []) lv w' ∧ Below w.heap.size w w'
set_option maxRecDepth 100000 in
theorem newPQ_any (w : World) : Calls Tryz.prog 28 #[] w (NewPQ w) := by
  have hmm := @run_makeMap Tryz.prog
  unfold NewPQ
  go_enter Tryz.func28, Tryz.ntmps28
  go_wp2
  go_ret
  refine ⟨w.heap.size + 1 + 1 + 1, w.heap.size, w.heap.size + 1, .slice (some ⟨w.heap.size + 1 + 1, 0, none⟩) 0 0, rfl, ⟨?_, ?_, ?_, ?_, by omega, by omega, by omega, by omega⟩, ?_⟩
  · have := heap_alloc_new (((w.alloc (.map #[] 0)).alloc (.map #[] 0)).alloc (.cells #[] 9)) (.cells #[.string ⟨#[36, 123]⟩, .string ⟨#[125]⟩, .bool false, .map (some w.heap.size), .map (some (w.heap.size + 1)), .slice (some ⟨w.heap.size + 1 + 1, 0, none⟩) 0 0, .string ⟨#[]⟩] 65)
    simpa using this
  · refine mp_keep (World.ownsMap_made (H := Unit) w Tryz.prog 9 (plainElem Tryz.prog 9)) ?_
    rw [Below.heap_alloc _ _ _ (by simp; omega), Below.heap_alloc _ _ _ (by simp; omega), Below.heap_alloc _ _ _ (by simp)]
  · refine mpc_keep (w := (w.alloc (.map #[] 0)).alloc (.map #[] 0)) (by
      have := World.ownsMap_made (H := Value) (w.alloc (.map #[] 0)) Tryz.prog 9 rawR
      rw [show (w.alloc (.map #[] 0)).heap.size = w.heap.size + 1 by simp] at this
      exact this) ?_
    rw [Below.heap_alloc _ _ _ (by simp), Below.heap_alloc _ _ _ (by simp)]
  · refine ⟨rfl, .inr ⟨w.heap.size + 1 + 1, 0, #[], rfl, by omega, ?_, Nat.le_refl _, by unfold maxLen; omega, rfl, rfl⟩⟩
    rw [Below.heap_alloc _ _ _ (by simp)]
    have := heap_alloc_new ((w.alloc (.map #[] 0)).alloc (.map #[] 0)) (.cells #[] 9)
    simpa using this
  · exact ((((Below.refl _ w).alloc (Nat.le_refl _) _).alloc (by simp) _).alloc (by simp; omega) _).alloc (by simp; omega) _
end Go.Proofs.YtgmhigjhooihdaaGreatDoor

set_option linter.unusedVariables false
namespace Go.Proofs.YtgmhigjhooihdaaGreatDoor
open Go.RowKit Plain

theorem assert_err (v : Value) (xT : TypeId) (w : World) : (Instr.typeAssert (.iface 196 v) xT 80 false).run Tryz.prog w = .ok (.iface 196 v) w := by
  have h : (Tryz.prog.info? 196).map (fun i => (lacking #[("Error", 93)] i.methods).isEmpty) = some true := by kernel_rfl
  obtain ⟨i, hi, hl⟩ := Option.map_eq_some_iff.1 h
  simp [Instr.typeAssert, run_underlying Tryz.underlying80, typeInfo, hi, missingMethod_none (List.isEmpty_iff.1 hl)]
set_option maxRecDepth 100000 in
theorem rec_pan (p : Value) (a : Addr) (x v : Value) (older : List PanicEntry) (w : World) (hc : w.cell? a = some x) (hz : w.frozen? a = false) :
    CallsD Tryz.prog 100 #[p, .pointer (some a)] (.panicking ({ v := .iface 196 v, recovered := false } :: older)) w fun e u' w' =>
      e = .returned (.tuple #[]) ∧ u' = .panicking ({ v := .iface 196 v, recovered := true } :: older) ∧ w' = w.setCell a (.iface 196 v) := by
  have hta := assert_err v
  refine callsD_of_wpS Tryz.func100 rfl fun c₀ cs hu => ?_
  apply wpS_seq
  apply wpS_region
  simp [wpOpsS, go_sem, recoverD, hu, Tryz.ntmps100, Exit.thenS]
  apply wpS_seq
  apply wpS_region
  simp [wpOpsS, go_sem, Exit.thenS]
  refine wpS_cond (t := true) (by simp [Act.eval, Array.replicate]) ?_
  simp only [if_true]
  apply wpS_region
  simp [wpOpsS, go_sem, hc, hz, hta, bodyPostS, results, Tryz.results100]
set_option maxRecDepth 100000 in
theorem rec_idle (p : Value) (a : Addr) (w : World) :
    CallsD Tryz.prog 100 #[p, .pointer (some a)] .returning w fun e u' w' => e = .returned (.tuple #[]) ∧ u' = .returning ∧ w' = w := by
  refine callsD_of_wpS Tryz.func100 rfl fun c₀ cs hu => ?_
  apply wpS_seq
  apply wpS_region
  simp [wpOpsS, go_sem, recoverD, hu, Tryz.ntmps100, Exit.thenS]
  apply wpS_seq
  apply wpS_region
  simp [wpOpsS, go_sem, Exit.thenS]
  refine wpS_cond (t := false) (by simp [Act.eval, Array.replicate]) ?_
  simp only [Bool.false_eq_true, if_false]
  refine wpS_of_wp (wp_skip ?_)
  cases c₀
  simp_all [bodyPostS, results, Tryz.results100]
end Go.Proofs.YtgmhigjhooihdaaGreatDoor

set_option linter.unusedVariables false
namespace Go.Proofs.YtgmhigjhooihdaaGreatDoor
open Go.RowKit Plain Go.Maps

structure PM (w : World) (e0 qb lb pb mb mc n nc : Nat) (p : PSt) (DC : DataW Value) (lv cmv : Value) (cm : List ByteArray) (wr : World) : Prop where
  pq : PQ w.heap.size pb mb mc n nc p DC lv wr
  cr : CRel w.heap.size DC p.cf lv cmv wr
  cmr : wr.ownsRow w.heap.size 9 1 cmv cm.length (cm.map Value.string)
  dis : ∀ g, cmv.ownBlock = some g → lv.ownBlock ≠ some g
  shp : ∃ G cap, cmv = .slice (some ⟨G, 0, none⟩) cm.length cap
  bel : Below w.heap.size w wr
  er : wr.heap[e0]? = some (.cells #[.nilIface] 80 (0, 0))
  qr : wr.heap[qb]? = some (.cells #[.pointer (some ⟨lb, 0, none⟩)] 175 (0, 0))
  le : w.heap.size ≤ e0 ∧ w.heap.size ≤ lb
theorem ne_ty {w : World} {k k' : Nat} {c c' : Array Value} {u u' : TypeId} (h1 : w.heap[k]? = some (.cells c u (0, 0))) (h2 : w.heap[k']? = some (.cells c' u' (0, 0))) (h : u ≠ u') : k ≠ k' := by
  intro e
  subst e
  rw [h1] at h2
  injection h2 with h2
  injection h2 with _ h2
  exact h h2
theorem ne_map {w : World} {k k' : Nat} {c : Array Value} {u : TypeId} (h1 : ∃ es cl, w.heap[k]? = some (.map es cl)) (h2 : w.heap[k']? = some (.cells c u (0, 0))) : k ≠ k' := by
  intro e
  subst e
  obtain ⟨es, cl, h1⟩ := h1
  rw [h1] at h2
  cases h2
/-- what keeps all blocks but one of a type that the memory does not have -/
theorem PM.keep {w : World} {e0 qb lb pb mb mc n nc : Nat} {p : PSt} {DC : DataW Value} {lv cmv : Value} {cm : List ByteArray} {wr w' : World} (h : PM w e0 qb lb pb mb mc n nc p DC lv cmv cm wr) {x : Nat} {cs : Array Value} {u : TypeId}
    (hx : x < wr.heap.size → wr.heap[x]? = some (.cells cs u (0, 0))) (hu : u = 164 ∨ u = 169)
    (hk : ∀ j, j < wr.heap.size → j ≠ x → w'.heap[j]? = wr.heap[j]?) (hb : Below w.heap.size w w') : PM w e0 qb lb pb mb mc n nc p DC lv cmv cm w' := by
  have hn : ∀ {k : Nat} {c : Array Value} {v : TypeId}, wr.heap[k]? = some (.cells c v (0, 0)) → v ≠ 164 → v ≠ 169 → w'.heap[k]? = wr.heap[k]? := fun {k c v} h1 h2 h3 => hk k (lx_lt h1) (fun e => by
    subst e
    have := hx (lx_lt h1)
    exact ne_ty h1 this (by rcases hu with e | e <;> rw [e] <;> assumption) rfl)
  have hm : ∀ {k : Nat}, (∃ es cl, wr.heap[k]? = some (.map es cl)) → w'.heap[k]? = wr.heap[k]? := fun {k} h1 => hk k (map_lt h1) (fun e => by
    subst e
    exact ne_map h1 (hx (map_lt h1)) rfl)
  have hr : ∀ {B n : Nat} {v : Value} {xs : List Value}, wr.ownsRow B 9 1 v n xs → w'.ownsRow B 9 1 v n xs := fun {B n v xs} h1 => row_keep h1 (fun g hg => by obtain ⟨c, hc⟩ := row_cells h1 hg; exact hn hc (by decide) (by decide))
  refine ⟨⟨(hn h.pq.blk (by decide) (by decide)).trans h.pq.blk, mp_keep h.pq.mp (hm (mp_is h.pq.mp)), mpc_keep h.pq.cp (hm (mpc_is h.pq.cp)), hr h.pq.row, h.pq.lo⟩, h.cr.keep (fun g c hc _ _ => hn hc (by decide) (by decide)) (.inl rfl) (.inl rfl), hr h.cmr, h.dis, h.shp, hb, (hn h.er (by decide) (by decide)).trans h.er, (hn h.qr (by decide) (by decide)).trans h.qr, h.le⟩
/-- .. all blocks -/
theorem PM.below {w : World} {e0 qb lb pb mb mc n nc : Nat} {p : PSt} {DC : DataW Value} {lv cmv : Value} {cm : List ByteArray} {wr w' : World} (h : PM w e0 qb lb pb mb mc n nc p DC lv cmv cm wr) (hb : Below wr.heap.size wr w') : PM w e0 qb lb pb mb mc n nc p DC lv cmv cm w' :=
  h.keep (x := wr.heap.size) (cs := #[]) (u := 164) (fun hx => absurd hx (by omega)) (.inl rfl) (fun j hj _ => hb.block j hj) (bthen h.bel (hb.mono (by have := h.bel.size; exact Nat.le_refl _)))
/-- the items that are left, in the block g -/
def IT (lb g : Nat) (s : ByteArray) (rest : List LI) (w : World) : Prop :=
  ∃ st pos start wd lp rv o c cs, w.heap[lb]? = some (lxC s st pos start wd lp rv (.slice (some ⟨g, o, none⟩) rest.length c)) ∧ rest.length ≤ c ∧ c ≤ 9223372036854775807 ∧ (∀ (i : Nat) (x : LI), rest[i]? = some x → ItemAt g (o + 3 * i) x w) ∧ w.heap[g]? = some (.cells cs 169 (0, 0))
theorem IT.lex {lb g : Nat} {s : ByteArray} {rest : List LI} {w : World} (h : IT lb g s rest w) : ∃ cs, w.heap[lb]? = some (.cells cs 164 (0, 0)) := by
  obtain ⟨st, pos, start, wd, lp, rv, o, c, cs, h1, _⟩ := h
  exact ⟨_, h1⟩
theorem IT.row {lb g : Nat} {s : ByteArray} {rest : List LI} {w : World} (h : IT lb g s rest w) : ∃ cs, w.heap[g]? = some (.cells cs 169 (0, 0)) := by
  obtain ⟨st, pos, start, wd, lp, rv, o, c, cs, h1, h2, h3, h4, h5⟩ := h
  exact ⟨_, h5⟩
theorem ItemAt.keep {g o : Nat} {x : LI} {w w' : World} (h : ItemAt g o x w) (e : w'.heap[g]? = w.heap[g]?) : ItemAt g o x w' := by
  obtain ⟨h1, h2, h3⟩ := h
  refine ⟨?_, ?_, ?_⟩
  · unfold World.cell? at h1 ⊢; rw [e]; exact h1
  · unfold World.cell? at h2 ⊢; rw [e]; exact h2
  · unfold World.cell? at h3 ⊢; rw [e]; exact h3
theorem IT.keep {lb g : Nat} {s : ByteArray} {rest : List LI} {w w' : World} (h : IT lb g s rest w) (e1 : w'.heap[lb]? = w.heap[lb]?) (e2 : w'.heap[g]? = w.heap[g]?) : IT lb g s rest w' := by
  obtain ⟨st, pos, start, wd, lp, rv, o, c, cs, h1, h2, h3, h4, h5⟩ := h
  exact ⟨st, pos, start, wd, lp, rv, o, c, cs, e1.trans h1, h2, h3, fun i x hx => (h4 i x hx).keep e2, e2.trans h5⟩
theorem IT.lt {lb g : Nat} {s : ByteArray} {rest : List LI} {w : World} (h : IT lb g s rest w) : lb < w.heap.size ∧ g < w.heap.size := by
  obtain ⟨c1, h1⟩ := h.lex
  obtain ⟨c2, h2⟩ := h.row
  exact ⟨lx_lt h1, lx_lt h2⟩
theorem IT.below {lb g : Nat} {s : ByteArray} {rest : List LI} {w w' : World} (h : IT lb g s rest w) (hb : Below w.heap.size w w') : IT lb g s rest w' := h.keep (hb.block lb h.lt.1) (hb.block g h.lt.2)
/-- an item is taken -/
theorem IT.call {q lb g : Nat} {s : ByteArray} {x : LI} {rest : List LI} {w : World} (h : IT lb g s (x :: rest) w) (E : Nat) (es : List Nat) (ne : Nat) (hne : es.length = ne) (hq : w.cell? ⟨q, 0, none⟩ = some (.pointer (some ⟨lb, 0, none⟩))) (hE : KindsAt E es w) (hEt : ∃ c u, w.heap[E]? = some (.cells c u (0, 0)) ∧ u ≠ 164) (hn : ne ≤ 10) :
    Calls Tryz.prog 101 #[.pointer (some ⟨q, 0, none⟩), .slice (some ⟨E, 0, none⟩) ne ne] w fun e w' =>
      (x.kind ∈ es → e = .returned (itemV x) ∧ KeepB lb w w' ∧ (∀ B, B ≤ lb → B ≤ w.heap.size → Below B w w') ∧ (rest ≠ [] → IT lb g s rest w') ∧ (∃ cs, w'.heap[lb]? = some (.cells cs 164 (0, 0)))) ∧ (¬ x.kind ∈ es → EBad lb w e w') := by
  obtain ⟨st, pos, start, wd, lp, rv, o, c, cs, h1, h2, h3, h4, h5⟩ := h
  obtain ⟨cE, uE, hE1, hE2⟩ := hEt
  have hx := h4 0 x rfl
  refine (expect_any q lb s x g o rest.length c E es ne hne st pos start wd lp rv w h1 hq hE (ne_ty (by unfold lxC at h1; exact h1) hE1 (fun e => hE2 e.symm)) (lx_lt hE1) hx (by simpa using h2) h3 hn).mono ?_
  rintro e w' ⟨ha, hb⟩
  refine ⟨fun hm => ?_, hb⟩
  obtain ⟨rfl, hk, hbw, st', pos', start', wd', lp', rv', iv', k1, k2⟩ := ha hm
  refine ⟨rfl, hk, hbw, fun hr => ?_, ⟨_, k1⟩⟩
  have hl : 0 < rest.length := List.length_pos_iff.2 hr
  have hgl : g ≠ lb := ne_ty h5 (by unfold lxC at h1; exact h1) (by decide)
  have eg := hk.2 g (lx_lt h5) hgl
  refine ⟨st', pos', start', wd', lp', rv', o + 3, c - 1, cs, ?_, ?_, by omega, fun i y hy => ?_, eg.trans h5⟩
  · rw [k1, k2 hl]
  · have : (x :: rest).length = rest.length + 1 := rfl
    omega
  · have := h4 (i + 1) y (by simpa using hy)
    rw [show o + 3 * (i + 1) = o + 3 + 3 * i by omega] at this
    exact this.keep eg
end Go.Proofs.YtgmhigjhooihdaaGreatDoor

set_option linter.unusedVariables false
namespace Go.Proofs.YtgmhigjhooihdaaGreatDoor
open Go.RowKit Plain Go.Maps

theorem textOf_size (l : List Nat) : (textOf l).size ≤ 4 * l.length := by
  have h : ∀ l : List Nat, ((l.map fun (n : Nat) => Lib.encodeRune (n : Int)).flatten).length ≤ 4 * l.length := by
    intro l
    induction l with
    | nil => simp
    | cons a l ih =>
      have := encode_len (a : Int)
      simp only [List.map_cons, List.flatten_cons, List.length_append, List.length_cons]
      omega
  rw [Lib.size_eq]
  unfold textOf
  rw [List.toList_toArray]
  exact h l
theorem keyL_len (s : ByteArray) (p : Nat) (acc : List Nat) : ∀ x, keyL s p acc = .ok x → x.1.length + p ≤ acc.length + x.2.1 := by
  fun_induction keyL s p acc with
  | case1 p acc h h1 hE => intro x hx; cases hx
  | case2 p acc h h1 y hE ih =>
    intro x hx
    have := scanE_gt s _ _ hE
    have := ih x hx
    have := kAt_pos s p h
    simp at *
    omega
  | case3 p acc h h1 h2 => intro x hx; injection hx with hx; subst hx; exact Nat.le_refl _
  | case4 p acc h h1 h2 ih =>
    intro x hx
    have hk := kAt_pos s p h
    have := ih x hx
    simp at *
    omega
  | case5 p acc h => intro x hx; injection hx with hx; subst hx; exact Nat.le_refl _
theorem valL_len (s : ByteArray) (p : Nat) (acc : List Nat) : ∀ x, valL s p acc = .ok x → x.1.length + p ≤ acc.length + x.2.1 := by
  fun_induction valL s p acc with
  | case1 p acc h h1 h2 ih =>
    intro x hx
    have hk := kAt_pos s p h
    have hk2 := kAt_pos s _ h2.1
    have hw := skipW_ge s (p + kAt s p + kAt s (p + kAt s p))
    have := ih x hx
    omega
  | case2 p acc h h1 h2 hE => intro x hx; cases hx
  | case3 p acc h h1 h2 y hE ih =>
    intro x hx
    have := scanE_gt s _ _ hE
    have := ih x hx
    have := kAt_pos s p h
    simp at *
    omega
  | case4 p acc h h1 h2 => intro x hx; injection hx with hx; subst hx; show acc.length + p ≤ acc.length + (p + kAt s p); omega
  | case5 p acc h h1 h2 ih =>
    intro x hx
    have hk := kAt_pos s p h
    have := ih x hx
    simp at *
    omega
  | case6 p acc h => intro x hx; injection hx with hx; subst hx; exact Nat.le_refl _
theorem comL_len (s : ByteArray) (p : Nat) (acc : List Nat) : (comL s p acc).1.length + p ≤ acc.length + (comL s p acc).2.1 := by
  fun_induction comL s p acc with
  | case1 p acc h h1 => show acc.length + p ≤ acc.length + (p + kAt s p); omega
  | case2 p acc h h1 ih =>
    have hk := kAt_pos s p h
    simp at *
    omega
  | case3 p acc h => exact Nat.le_refl _
theorem badEsc_size (s : ByteArray) (p : Nat) : (badEsc s p).size ≤ 100 := by
  unfold badEsc
  split <;> decide
theorem keyL_err (s : ByteArray) (p : Nat) (acc : List Nat) : ∀ e, keyL s p acc = .error e → e.size ≤ 100 := by
  fun_induction keyL s p acc with
  | case1 p acc h h1 hE => intro e he; injection he with he; subst he; exact badEsc_size _ _
  | case2 p acc h h1 y hE ih => exact ih
  | case3 p acc h h1 h2 => intro e he; cases he
  | case4 p acc h h1 h2 ih => exact ih
  | case5 p acc h => intro e he; cases he
theorem valL_err (s : ByteArray) (p : Nat) (acc : List Nat) : ∀ e, valL s p acc = .error e → e.size ≤ 100 := by
  fun_induction valL s p acc with
  | case1 p acc h h1 h2 ih => exact ih
  | case2 p acc h h1 h2 hE => intro e he; injection he with he; subst he; exact badEsc_size _ _
  | case3 p acc h h1 h2 y hE ih => exact ih
  | case4 p acc h h1 h2 => intro e he; cases he
  | case5 p acc h h1 h2 ih => exact ih
  | case6 p acc h => intro e he; cases he
theorem lexS_text (s : ByteArray) (nx : NX) (p : Nat) (hp : p ≤ s.size) : ∀ x ∈ (lexS s nx p).1, x.text.size ≤ 4 * s.size + 100 := by
  intro x hx
  unfold lexS at hx
  cases nx with
  | before =>
    dsimp only at hx
    (repeat' split at hx) <;> simp at hx
    subst hx
    show (0 : Nat) ≤ _
    omega
  | comment =>
    dsimp only at hx
    have h1 := comL_len s (skipW s p) []
    have h2 := comL_bd s (skipW s p) [] (skipW_le s p hp)
    split at hx
    · rename_i acc q hc
      rw [hc] at h1 h2
      simp at hx h1
      subst hx
      have := textOf_size acc
      show (textOf acc).size ≤ _
      have := h2.2.1
      simp at this
      omega
    · rename_i acc q hc
      rw [hc] at h1 h2
      simp at hx h1
      subst hx
      have := textOf_size acc
      show (textOf acc).size ≤ _
      have := h2.2.1
      simp at this
      omega
  | key =>
    dsimp only at hx
    split at hx
    · rename_i e he
      simp at hx
      subst hx
      have := keyL_err s p [] e he
      show e.size ≤ _
      omega
    · rename_i acc q b hk
      have h1 := keyL_len s p [] _ hk
      have h2 := keyL_bd s p [] hp _ hk
      have h3 := textOf_size acc
      simp at h1 h2
      rcases List.mem_append.1 hx with hx | hx
      · split at hx
        · cases hx
        · simp at hx
          subst hx
          show (textOf acc).size ≤ _
          omega
      · split at hx
        · simp at hx
          subst hx
          show (0 : Nat) ≤ _
          omega
        · cases hx
  | bval => simp at hx
  | val =>
    dsimp only at hx
    split at hx
    · rename_i e he
      simp at hx
      subst hx
      have := valL_err s p [] e he
      show e.size ≤ _
      omega
    · rename_i acc q b hk
      have h1 := valL_len s p [] _ hk
      have h2 := valL_bd s p [] hp _ hk
      have h3 := textOf_size acc
      simp at h1 h2
      rcases List.mem_append.1 hx with hx | hx
      · simp at hx
        subst hx
        show (textOf acc).size ≤ _
        omega
      · split at hx
        · simp at hx
          subst hx
          show (0 : Nat) ≤ _
          omega
        · cases hx
theorem lexN_text (s : ByteArray) : ∀ (f : Nat) (nx : NX) (p : Nat), p ≤ s.size → ∀ x ∈ lexN s f nx p, x.text.size ≤ 4 * s.size + 100 := by
  intro f
  induction f with
  | zero => intro nx p hp x hx; cases hx
  | succ f ih =>
    intro nx p hp x hx
    unfold lexN at hx
    rcases List.mem_append.1 hx with hx | hx
    · exact lexS_text s nx p hp x hx
    · have hm := lexS_mu s nx p hp
      cases hr : (lexS s nx p).2 with
      | none => rw [hr] at hx; cases hx
      | some y =>
        rw [hr] at hx
        exact ih y.1 y.2 (hm y hr).2.1 x hx
theorem lexL_text (s : ByteArray) : ∀ x ∈ lexL s, x.text.size ≤ 4 * s.size + 100 := lexN_text s _ _ 0 (Nat.zero_le _)
theorem lexN_len (s : ByteArray) : ∀ (f : Nat) (nx : NX) (p : Nat), (lexN s f nx p).length ≤ 2 * f := by
  intro f
  induction f with
  | zero => intro nx p; simp [lexN]
  | succ f ih =>
    intro nx p
    unfold lexN
    have h1 := lexS_len s nx p
    cases hr : (lexS s nx p).2 with
    | none => simp; omega
    | some y =>
      have := ih y.1 y.2
      simp
      omega
theorem itemsC_at (l : List LI) : ∀ (i : Nat) (x : LI), l[i]? = some x → (itemsC l)[3 * i]? = some (.int .i64 (x.kind : Int)) ∧ (itemsC l)[3 * i + 1]? = some (.int .i64 (x.pos : Int)) ∧ (itemsC l)[3 * i + 2]? = some (.string x.text) := by
  induction l with
  | nil => intro i x hx; simp at hx
  | cons a l ih =>
    intro i x hx
    have e : itemsC (a :: l) = itemC a ++ itemsC l := by simp [itemsC]
    rw [e]
    cases i with
    | zero =>
      simp at hx
      subst hx
      exact ⟨rfl, rfl, rfl⟩
    | succ i =>
      have := ih i x (by simpa using hx)
      have hl : (itemC a).length = 3 := rfl
      refine ⟨?_, ?_, ?_⟩
      · rw [List.getElem?_append_right (by rw [hl]; omega), hl, show 3 * (i + 1) - 3 = 3 * i by omega]; exact this.1
      · rw [List.getElem?_append_right (by rw [hl]; omega), hl, show 3 * (i + 1) + 1 - 3 = 3 * i + 1 by omega]; exact this.2.1
      · rw [List.getElem?_append_right (by rw [hl]; omega), hl, show 3 * (i + 1) + 2 - 3 = 3 * i + 2 by omega]; exact this.2.2
theorem LY.it {B lb pos start : Nat} {s : ByteArray} {rs : List Nat} {its : List LI} {w : World} (h : LY B lb s pos start rs its w) (hne : its ≠ []) : ∃ g, IT lb g s its w := by
  obtain ⟨wd, ⟨⟨st, lp, rv, iv, h1, h2, h3, h4⟩, h5⟩⟩ := h
  have hl : 0 < its.length := List.length_pos_iff.2 hne
  rcases h3.2 with ⟨_, h0⟩ | ⟨g, cap, cur, hv, hB, hg, hn, hc, hcs, htk⟩
  · omega
  · subst hv
    refine ⟨g, st, pos, start, wd, lp, rv, 0, cap, cur, h1, hn, by unfold maxLen at hc; omega, fun i x hx => ?_, hg⟩
    obtain ⟨a1, a2, a3⟩ := itemsC_at its i x hx
    have hget : ∀ (j : Nat) (u : Value), (itemsC its)[j]? = some u → w.cell? ⟨g, 0 + j, none⟩ = some u := fun j u hu => by
      rw [Nat.zero_add, Lib.cell_of_heap hg]
      have htk2 : cur.toList.take (its.length * 3) = itemsC its := htk
      rw [← htk2] at hu
      have hj : j < its.length * 3 := by
        have := (List.getElem?_eq_some_iff.1 hu).1
        rw [List.length_take] at this
        omega
      rw [List.getElem?_take_of_lt hj] at hu
      simpa using hu
    exact ⟨hget _ _ a1, hget _ _ a2, hget _ _ a3⟩
theorem row_base {w : World} {base base' sz : Nat} {e : TypeId} {v : Value} {n : Nat} {xs : List Value} (h : w.ownsRow base e sz v n xs) (hb : base' ≤ base) : w.ownsRow base' e sz v n xs := by
  refine ⟨h.1, ?_⟩
  rcases h.2 with hn | ⟨g, cap, cur, hv, h1, h2⟩
  · exact .inl hn
  · exact .inr ⟨g, cap, cur, hv, Nat.le_trans hb h1, h2⟩
theorem PQ.base {B B' pb mb mc n nc : Nat} {p : PSt} {DC : DataW Value} {lv : Value} {w : World} (h : PQ B pb mb mc n nc p DC lv w) (hb : B' ≤ B) : PQ B' pb mb mc n nc p DC lv w :=
  ⟨h.blk, h.mp, h.cp, row_base h.row hb, Nat.le_trans hb h.lo.1, Nat.le_trans hb h.lo.2.1, Nat.le_trans hb h.lo.2.2.1, h.lo.2.2.2⟩
theorem PQ.below {B pb mb mc n nc : Nat} {p : PSt} {DC : DataW Value} {lv : Value} {w w' : World} (h : PQ B pb mb mc n nc p DC lv w) (hb : Below w.heap.size w w') : PQ B pb mb mc n nc p DC lv w' :=
  ⟨(hb.block _ (lx_lt h.blk)).trans h.blk, mp_keep h.mp (hb.block _ (map_lt (mp_is h.mp))), mpc_keep h.cp (hb.block _ (map_lt (mpc_is h.cp))), row_keep h.row (fun g hg => hb.block g (row_lt h.row hg).2), h.lo⟩
end Go.Proofs.YtgmhigjhooihdaaGreatDoor

set_option linter.unusedVariables false
namespace Go.Proofs.YtgmhigjhooihdaaGreatDoor
open Go.RowKit Plain Go.Maps

theorem row_sl {w : World} {B n : Nat} {v : Value} {xs : List Value} (h : w.ownsRow B 9 1 v (n + 1) xs) : ∃ G cap, v = .slice (some ⟨G, 0, none⟩) (n + 1) cap := by
  rcases h.2 with ⟨_, h0⟩ | ⟨g, cap, cur, hv, _⟩
  · omega
  · exact ⟨g, cap, hv⟩
/-- a text is put to the comments -/
theorem PM.addCm {w : World} {e0 qb lb pb mb mc n nc : Nat} {p : PSt} {DC : DataW Value} {lv cmv cmv' : Value} {cm : List ByteArray} {wr w' : World} (h : PM w e0 qb lb pb mb mc n nc p DC lv cmv cm wr) (t : ByteArray)
    (ho : w'.ownsRow w.heap.size 9 1 cmv' (cm.length + 1) (cm.map Value.string ++ [.string t])) (hg : wr.grownBy w' cmv.ownBlock) (hs : cmv'.ownBlock = cmv.ownBlock ∨ cmv'.ownBlock = some wr.heap.size) :
    PM w e0 qb lb pb mb mc n nc p DC lv cmv' (cm ++ [t]) w' := by
  have hn : ∀ {k : Nat} {c : Array Value} {v : TypeId}, wr.heap[k]? = some (.cells c v (0, 0)) → v ≠ 9 → w'.heap[k]? = wr.heap[k]? := fun {k c v} h1 h2 => hg.block k (lx_lt h1) (fun e => by
    obtain ⟨cs, h3⟩ := row_cells h.cmr e.symm
    exact ne_ty h1 h3 h2 rfl)
  have hm : ∀ {k : Nat}, (∃ es cl, wr.heap[k]? = some (.map es cl)) → w'.heap[k]? = wr.heap[k]? := fun {k} h1 => hg.block k (map_lt h1) (fun e => by
    obtain ⟨cs, h3⟩ := row_cells h.cmr e.symm
    exact ne_map h1 h3 rfl)
  refine ⟨⟨(hn h.pq.blk (by decide)).trans h.pq.blk, mp_keep h.pq.mp (hm (mp_is h.pq.mp)), mpc_keep h.pq.cp (hm (mpc_is h.pq.cp)), row_keep h.pq.row (fun g hgg => hg.block g (row_lt h.pq.row hgg).2 (fun e => h.dis g e.symm hgg)), h.pq.lo⟩, h.cr.keep (fun g cs hcs _ h2 => hg.block g (lx_lt hcs) (fun e => h2 e.symm)) (.inl rfl) ?_, ?_, ?_, ?_, ?_, (hn h.er (by decide)).trans h.er, (hn h.qr (by decide)).trans h.qr, h.le⟩
  · rcases hs with e | e
    · exact .inl e
    · refine .inr (fun g hgg => ?_)
      rw [e] at hgg
      exact Nat.le_of_eq (Option.some.inj hgg)
  · simpa using ho
  · intro g hgg
    rcases hs with e | e
    · rw [e] at hgg; exact h.dis g hgg
    · rw [e] at hgg
      obtain rfl := Option.some.inj hgg
      exact fun e2 => absurd (row_lt h.pq.row e2).2 (Nat.lt_irrefl _)
  · obtain ⟨G, cap, e⟩ := row_sl ho
    exact ⟨G, cap, by simpa using e⟩
  · exact h.bel.grown hg h.bel.size (fun g hgg => (row_lt h.cmr hgg).1)
/-- a key is put to the keys -/
theorem PM.addKey {w : World} {e0 qb lb pb mb mc n nc : Nat} {p : PSt} {DC : DataW Value} {lv lv' cmv : Value} {cm : List ByteArray} {wr w' : World} (h : PM w e0 qb lb pb mb mc n nc p DC lv cmv cm wr) (k : ByteArray)
    (ho : w'.ownsRow w.heap.size 9 1 lv' (p.ks.length + 1) (p.ks.map Value.string ++ [.string k])) (hg : wr.grownBy w' lv.ownBlock) (hs : lv'.ownBlock = lv.ownBlock ∨ lv'.ownBlock = some wr.heap.size) :
    PM w e0 qb lb pb mb mc n nc { p with ks := p.ks ++ [k] } DC lv' cmv cm (w'.setCell ⟨pb, 5, none⟩ lv') := by
  have hn : ∀ {k : Nat} {c : Array Value} {v : TypeId}, wr.heap[k]? = some (.cells c v (0, 0)) → v ≠ 9 → w'.heap[k]? = wr.heap[k]? := fun {k c v} h1 h2 => hg.block k (lx_lt h1) (fun e => by
    obtain ⟨cs, h3⟩ := row_cells h.pq.row e.symm
    exact ne_ty h1 h3 h2 rfl)
  have hm : ∀ {k : Nat}, (∃ es cl, wr.heap[k]? = some (.map es cl)) → w'.heap[k]? = wr.heap[k]? := fun {k} h1 => hg.block k (map_lt h1) (fun e => by
    obtain ⟨cs, h3⟩ := row_cells h.pq.row e.symm
    exact ne_map h1 h3 rfl)
  have hp := (hn h.pq.blk (by decide)).trans h.pq.blk
  have hst : ∀ {j : Nat}, j ≠ pb → (w'.setCell ⟨pb, 5, none⟩ lv').heap[j]? = w'.heap[j]? := fun hj => Below.heap_setCell _ _ _ _ hj
  have hty : ∀ {j : Nat} {c : Array Value} {v : TypeId}, w'.heap[j]? = some (.cells c v (0, 0)) → v ≠ 65 → (w'.setCell ⟨pb, 5, none⟩ lv').heap[j]? = w'.heap[j]? := fun h1 h2 => hst (ne_ty h1 hp h2)
  have hrw : ∀ {B n : Nat} {v : Value} {xs : List Value}, w'.ownsRow B 9 1 v n xs → (w'.setCell ⟨pb, 5, none⟩ lv').ownsRow B 9 1 v n xs := fun {B n v xs} h1 => row_keep h1 (fun g hg => by obtain ⟨c, hc⟩ := row_cells h1 hg; exact hty hc (by decide))
  have hmp : ∀ {k : Nat}, (∃ es cl, wr.heap[k]? = some (.map es cl)) → (w'.setCell ⟨pb, 5, none⟩ lv').heap[k]? = wr.heap[k]? := fun {k} h1 => (hst (fun e => by
    subst e
    exact ne_map h1 h.pq.blk rfl)).trans (hm h1)
  have hdis : ∀ g, cmv.ownBlock = some g → lv'.ownBlock ≠ some g := by
    intro g hgg e2
    rcases hs with e | e
    · rw [e] at e2; exact h.dis g hgg e2
    · rw [e] at e2
      obtain rfl := Option.some.inj e2
      exact absurd (row_lt h.cmr hgg).2 (Nat.lt_irrefl _)
  have hc1 : CRel w.heap.size DC p.cf lv' cmv w' := h.cr.keep (fun g cs hcs h1 _ => hg.block g (lx_lt hcs) (fun e => h1 e.symm)) (by
    rcases hs with e | e
    · exact .inl e
    · refine .inr (fun g hgg => ?_)
      rw [e] at hgg
      exact Nat.le_of_eq (Option.some.inj hgg)) (.inl rfl)
  refine ⟨⟨?_, mp_keep h.pq.mp (hmp (mp_is h.pq.mp)), mpc_keep h.pq.cp (hmp (mpc_is h.pq.cp)), ?_, h.pq.lo⟩, hc1.keep (fun g cs hcs _ _ => hty hcs (by decide)) (.inl rfl) (.inl rfl), ?_, hdis, h.shp, ?_, ?_, ?_, h.le⟩
  · exact seven_set hp 5
  · have := hrw ho
    simpa using this
  · exact hrw (row_keep h.cmr (fun g hgg => hg.block g (row_lt h.cmr hgg).2 (fun e => h.dis g hgg e.symm)))
  · exact (h.bel.grown hg h.bel.size (fun g hgg => (row_lt h.pq.row hgg).1)).setCell (p := ⟨pb, 5, none⟩) h.pq.lo.1 _
  · have e1 := (hn h.er (by decide)).trans h.er
    exact (hty e1 (by decide)).trans e1
  · have e1 := (hn h.qr (by decide)).trans h.qr
    exact (hty e1 (by decide)).trans e1
/-- a raw value is put -/
theorem PM.putD {w : World} {e0 qb lb pb mb mc n nc n' : Nat} {p : PSt} {DC : DataW Value} {lv cmv : Value} {cm : List ByteArray} {wr w' : World} (h : PM w e0 qb lb pb mb mc n nc p DC lv cmv cm wr) (k v : ByteArray)
    (ho : MpS w' mb n' (p.D.put (keyL8 k) (.lit (.string v.data.toList)))) (hg : wr.grownBy w' (some mb)) : PM w e0 qb lb pb mb mc n' nc (putV p k v) DC lv cmv cm w' := by
  have hn : ∀ {k : Nat} {c : Array Value} {v : TypeId}, wr.heap[k]? = some (.cells c v (0, 0)) → w'.heap[k]? = wr.heap[k]? := fun {k c v} h1 => hg.block k (lx_lt h1) (fun e => ne_map (mp_is h.pq.mp) h1 (Option.some.inj e).symm)
  have hrw : ∀ {B n : Nat} {v : Value} {xs : List Value}, wr.ownsRow B 9 1 v n xs → w'.ownsRow B 9 1 v n xs := fun {B n v xs} h1 => row_keep h1 (fun g hg => by obtain ⟨c, hc⟩ := row_cells h1 hg; exact hn hc)
  exact ⟨⟨(hn h.pq.blk).trans h.pq.blk, ho, mpc_keep h.pq.cp (hg.block mc (map_lt (mpc_is h.pq.cp)) (fun e => h.pq.lo.2.2.2 (Option.some.inj e).symm)), hrw h.pq.row, h.pq.lo⟩, h.cr.keep (fun g cs hcs _ _ => hn hcs) (.inl rfl) (.inl rfl), hrw h.cmr, h.dis, h.shp, h.bel.grown hg h.bel.size (fun g e => by obtain rfl := Option.some.inj e; exact h.pq.lo.2.1), (hn h.er).trans h.er, (hn h.qr).trans h.qr, h.le⟩
/-- the comments are put, and the row of comments is a new one -/
theorem PM.putC {w : World} {e0 qb lb pb mb mc n nc nc' : Nat} {p : PSt} {DC : DataW Value} {lv cmv : Value} {cm : List ByteArray} {wr w' : World} (h : PM w e0 qb lb pb mb mc n nc p DC lv cmv cm wr) (k : ByteArray)
    (ho : MpC w' mc nc' (DC.put (keyL8 k) (.held cmv))) (hg : wr.grownBy w' (some mc)) :
    PM w e0 qb lb pb mb mc n nc' { p with cf := updC p.cf k cm } (DC.put (keyL8 k) (.held cmv)) lv (.slice (some ⟨w'.heap.size, 0, none⟩) 0 0) [] (w'.alloc (.cells #[] 9)) := by
  have hn : ∀ {k : Nat} {c : Array Value} {v : TypeId}, wr.heap[k]? = some (.cells c v (0, 0)) → (w'.alloc (.cells #[] 9)).heap[k]? = wr.heap[k]? := fun {k c v} h1 => (Below.heap_alloc _ _ _ (Nat.lt_of_lt_of_le (lx_lt h1) hg.size)).trans (hg.block k (lx_lt h1) (fun e => ne_map (mpc_is h.pq.cp) h1 (Option.some.inj e).symm))
  have hrw : ∀ {B n : Nat} {v : Value} {xs : List Value}, wr.ownsRow B 9 1 v n xs → (w'.alloc (.cells #[] 9)).ownsRow B 9 1 v n xs := fun {B n v xs} h1 => row_keep h1 (fun g hg => by obtain ⟨c, hc⟩ := row_cells h1 hg; exact hn hc)
  have hml := map_lt (mp_is h.pq.mp)
  have hcl := map_lt (mpc_is ho)
  refine ⟨⟨(hn h.pq.blk).trans h.pq.blk, mp_keep h.pq.mp ((Below.heap_alloc _ _ _ (Nat.lt_of_lt_of_le hml hg.size)).trans (hg.block mb hml (fun e => h.pq.lo.2.2.2 (Option.some.inj e)))), mpc_keep ho (Below.heap_alloc _ _ _ hcl), hrw h.pq.row, h.pq.lo⟩, h.cr.store h.pq.cp h.cmr h.dis (fun g cs hcs => hn hcs) (fun g e => ?_), ?_, fun g e e2 => ?_, ⟨_, _, rfl⟩, ?_, (hn h.er).trans h.er, (hn h.qr).trans h.qr, h.le⟩
  · have e3 : some w'.heap.size = some g := e
    obtain rfl := Option.some.inj e3
    exact hg.size
  · refine ⟨rfl, .inr ⟨w'.heap.size, 0, #[], rfl, Nat.le_trans h.bel.size hg.size, heap_alloc_new w' _, Nat.le_refl _, by unfold maxLen; omega, rfl, rfl⟩⟩
  · have e3 : some w'.heap.size = some g := e
    obtain rfl := Option.some.inj e3
    have := (row_lt h.pq.row e2).2
    have := hg.size
    omega
  · exact (h.bel.grown hg h.bel.size (fun g e => by obtain rfl := Option.some.inj e; exact h.pq.lo.2.2.1)).alloc (Nat.le_trans h.bel.size hg.size) _
/-- the loop's memory at its start -/
theorem PM.start {w w3 : World} {e0 qb lb pb mb mc : Nat} {lv : Value} (h : PQ w.heap.size pb mb mc 0 0 pst0 (.map []) lv w3) (hb : Below w.heap.size w w3) (er : w3.heap[e0]? = some (.cells #[.nilIface] 80 (0, 0))) (qr : w3.heap[qb]? = some (.cells #[.pointer (some ⟨lb, 0, none⟩)] 175 (0, 0))) (hle : w.heap.size ≤ e0 ∧ w.heap.size ≤ lb) :
    PM w e0 qb lb pb mb mc 0 0 pst0 (.map []) lv (.slice (some ⟨w3.heap.size, 0, none⟩) 0 0) [] (w3.alloc (.cells #[] 9)) := by
  have hb4 : Below w3.heap.size w3 (w3.alloc (.cells #[] 9)) := (Below.refl _ w3).alloc (Nat.le_refl _) _
  refine ⟨h.below hb4, CRel.zero _ _ _ _, ⟨rfl, .inr ⟨w3.heap.size, 0, #[], rfl, hb.size, heap_alloc_new w3 _, Nat.le_refl _, by unfold maxLen; omega, rfl, rfl⟩⟩, fun g e e2 => ?_, ⟨_, _, rfl⟩, hb.alloc hb.size _, (hb4.block _ (lx_lt er)).trans er, (hb4.block _ (lx_lt qr)).trans qr, hle⟩
  have e3 : some w3.heap.size = some g := e
  obtain rfl := Option.some.inj e3
  exact absurd (row_lt h.row e2).2 (Nat.lt_irrefl _)
/-- a token is taken -/
theorem PM.take {w : World} {e0 qb lb g pb mb mc n nc : Nat} {p : PSt} {DC : DataW Value} {lv cmv : Value} {cm : List ByteArray} {s : ByteArray} {x : LI} {rest : List LI} {wr : World} (h : PM w e0 qb lb pb mb mc n nc p DC lv cmv cm wr) (hit : IT lb g s (x :: rest) wr) (es : List Nat) (cs : Array Value) (ne : Nat) (hl : es.length = ne) (hn : ne ≤ 10) (hcs : ∀ (i k : Nat), es[i]? = some k → cs[i]? = some (.int .i64 (k : Int))) :
    Calls Tryz.prog 101 #[.pointer (some ⟨qb, 0, none⟩), .slice (some ⟨wr.heap.size, 0, none⟩) ne ne] (wr.alloc (.cells cs 167)) fun e w' =>
      (x.kind ∈ es → e = .returned (itemV x) ∧ PM w e0 qb lb pb mb mc n nc p DC lv cmv cm w' ∧ (rest ≠ [] → IT lb g s rest w') ∧ wr.heap.size ≤ w'.heap.size ∧ (∀ j, j < wr.heap.size → j ≠ lb → w'.heap[j]? = wr.heap[j]?)) ∧
      (¬ x.kind ∈ es → ∃ N : Nat, e = .panicked [{ v := .iface 196 (.pointer (some ⟨N, 0, none⟩)), recovered := false }] ∧ w'.heap[e0]? = some (.cells #[.nilIface] 80 (0, 0)) ∧ Below w.heap.size w w') := by
  have hb1 : Below wr.heap.size wr (wr.alloc (.cells cs 167)) := (Below.refl _ wr).alloc (Nat.le_refl _) _
  have hz : (wr.alloc (.cells cs 167)).heap.size = wr.heap.size + 1 := by simp
  have h1 := h.below hb1
  have hnew : (wr.alloc (.cells cs 167)).heap[wr.heap.size]? = some (.cells cs 167 (0, 0)) := heap_alloc_new wr _
  obtain ⟨W, hW⟩ : ∃ W, wr.alloc (.cells cs 167) = W := ⟨_, rfl⟩
  rw [hW] at hb1 h1 hnew hz ⊢
  have hit1 := hit.below hb1
  obtain ⟨lc, hlc⟩ := hit1.lex
  refine (hit1.call wr.heap.size es ne hl (by simp [World.cell?, h1.qr]) (fun i k hk => ?_) ⟨_, _, hnew, by decide⟩ hn).mono ?_
  · have := hcs i k hk
    unfold World.cell?
    rw [hnew]
    simpa using this
  · rintro e w' ⟨ha, hb⟩
    have hbw : Below w.heap.size w W := h1.bel
    refine ⟨fun hm => ?_, fun hm => ?_⟩
    · obtain ⟨rfl, hk, hb2, hi, _⟩ := ha hm
      have hb3 : Below w.heap.size w w' := hbw.trans (hb2 _ h.le.2 h1.bel.size)
      refine ⟨rfl, h1.keep (x := lb) (cs := lc) (u := 164) (fun _ => hlc) (.inl rfl) (fun j hj hn => hk.2 j hj hn) hb3, hi, by have := hk.1; omega, fun j hj hn => (hk.2 j (by omega) hn).trans (hb1.block j hj)⟩
    · obtain ⟨N, rfl, hk, hb2⟩ := hb hm
      exact ⟨N, rfl, (hk.2 e0 (lx_lt h1.er) (ne_ty h1.er hlc (by decide))).trans h1.er, hbw.trans (hb2 _ h.le.2 h1.bel.size)⟩
/-- .. and the first time it is put to a new block -/
theorem PM.tok {w : World} {e0 qb lb pb mb mc n nc : Nat} {p : PSt} {DC : DataW Value} {lv cmv : Value} {cm : List ByteArray} {wr w' : World} (h : PM w e0 qb lb pb mb mc n nc p DC lv cmv cm wr) {D : Nat} {cs : Array Value} (hD : wr.heap[D]? = some (.cells cs 169 (0, 0))) (hs : w'.heap.size = wr.heap.size) (hk : ∀ j, j ≠ D → w'.heap[j]? = wr.heap[j]?) (hb : Below w.heap.size w w') : PM w e0 qb lb pb mb mc n nc p DC lv cmv cm w' :=
  h.keep (x := D) (cs := cs) (u := 169) (fun _ => hD) (.inr rfl) (fun j _ hn => hk j hn) hb
theorem pq_cells {B pb mb mc n nc : Nat} {p : PSt} {DC : DataW Value} {lv : Value} {w : World} (h : PQ B pb mb mc n nc p DC lv w) : w.cell? ⟨pb, 3, none⟩ = some (.map (some mb)) ∧ w.cell? ⟨pb, 4, none⟩ = some (.map (some mc)) ∧ w.cell? ⟨pb, 5, none⟩ = some lv ∧ w.frozen? ⟨pb, 5, none⟩ = false := by
  have hb := h.blk
  simp [World.cell?, World.frozen?, hb]
theorem PM.alloc {w : World} {e0 qb lb pb mb mc n nc : Nat} {p : PSt} {DC : DataW Value} {lv cmv : Value} {cm : List ByteArray} {wr : World} (h : PM w e0 qb lb pb mb mc n nc p DC lv cmv cm wr) (o : Obj) : PM w e0 qb lb pb mb mc n nc p DC lv cmv cm (wr.alloc o) := h.below ((Below.refl _ wr).alloc (Nat.le_refl _) _)
theorem IT.alloc {lb g : Nat} {s : ByteArray} {rest : List LI} {w : World} (h : IT lb g s rest w) (o : Obj) : IT lb g s rest (w.alloc o) := h.below ((Below.refl _ w).alloc (Nat.le_refl _) _)
theorem wfI_next {x : LI} {r : List LI} (h : WfI (x :: r)) (hk : 2 ≤ x.kind) : r ≠ [] ∧ WfI r := by
  cases r with
  | nil =>
    have h9 : x.kind < 2 := h
    omega
  | cons y r => exact ⟨List.cons_ne_nil _ _, h.2.2⟩
theorem IT.grown {lb g : Nat} {s : ByteArray} {rest : List LI} {w w' : World} (h : IT lb g s rest w) {B n : Nat} {v : Value} {xs : List Value} (hr : w.ownsRow B 9 1 v n xs) (hg : w.grownBy w' v.ownBlock) : IT lb g s rest w' := by
  obtain ⟨c1, h1⟩ := h.lex
  obtain ⟨c2, h2⟩ := h.row
  refine h.keep (hg.block lb h.lt.1 (fun e => ?_)) (hg.block g h.lt.2 (fun e => ?_))
  · obtain ⟨cs, h3⟩ := row_cells hr e.symm
    exact ne_ty h1 h3 (by decide) rfl
  · obtain ⟨cs, h3⟩ := row_cells hr e.symm
    exact ne_ty h2 h3 (by decide) rfl
theorem IT.grownM {lb g : Nat} {s : ByteArray} {rest : List LI} {w w' : World} (h : IT lb g s rest w) {b : Nat} (hm : ∃ es c, w.heap[b]? = some (.map es c)) (hg : w.grownBy w' (some b)) : IT lb g s rest w' := by
  obtain ⟨c1, h1⟩ := h.lex
  obtain ⟨c2, h2⟩ := h.row
  exact h.keep (hg.block lb h.lt.1 (fun e => ne_map hm h1 (Option.some.inj e).symm)) (hg.block g h.lt.2 (fun e => ne_map hm h2 (Option.some.inj e).symm))
theorem IT.setPb {lb g pb i : Nat} {u : Value} {s : ByteArray} {rest : List LI} {w : World} (h : IT lb g s rest w) {c : Array Value} (hp : w.heap[pb]? = some (.cells c 65 (0, 0))) : IT lb g s rest (w.setCell ⟨pb, i, none⟩ u) := by
  obtain ⟨c1, h1⟩ := h.lex
  obtain ⟨c2, h2⟩ := h.row
  exact h.keep (Below.heap_setCell _ _ _ _ (ne_ty h1 hp (by decide))) (Below.heap_setCell _ _ _ _ (ne_ty h2 hp (by decide)))
theorem PM.keyBlk {w : World} {e0 qb lb pb mb mc n nc : Nat} {p : PSt} {DC : DataW Value} {lv cmv : Value} {cm : List ByteArray} {wr w' : World} (h : PM w e0 qb lb pb mb mc n nc p DC lv cmv cm wr) (hg : wr.grownBy w' lv.ownBlock) :
    w'.heap[pb]? = some (.cells #[.string ⟨#[36, 123]⟩, .string ⟨#[125]⟩, .bool false, .map (some mb), .map (some mc), lv, .string ⟨#[]⟩] 65 (0, 0)) ∧ w'.cell? ⟨pb, 5, none⟩ = some lv ∧ w'.frozen? ⟨pb, 5, none⟩ = false := by
  have hb := (hg.block pb (lx_lt h.pq.blk) (fun e => by
    obtain ⟨cs, h3⟩ := row_cells h.pq.row e.symm
    exact ne_ty h.pq.blk h3 (by decide) rfl)).trans h.pq.blk
  exact ⟨hb, by simp [World.cell?, hb], by simp [World.frozen?, hb]⟩
theorem tok_set {w : World} {D : Nat} {a b c : Value} (hD : w.heap[D]? = some (.cells #[a, b, c] 169 (0, 0))) (x y z : Value) :
    ∃ W, ((w.setCell ⟨D, 0, none⟩ x).setCell ⟨D, 1, none⟩ y).setCell ⟨D, 2, none⟩ z = W ∧ W.heap[D]? = some (.cells #[x, y, z] 169 (0, 0)) ∧ W.heap.size = w.heap.size ∧ (∀ j, j ≠ D → W.heap[j]? = w.heap[j]?) ∧ (∀ B, B ≤ D → Below B w W) := by
  refine ⟨_, rfl, ?_, by simp [World.setCell], fun j hj => ((Below.heap_setCell _ _ _ _ hj).trans (Below.heap_setCell _ _ _ _ hj)).trans (Below.heap_setCell _ _ _ _ hj), fun B hB => (((Below.refl B w).setCell (p := ⟨D, 0, none⟩) hB _).setCell (p := ⟨D, 1, none⟩) hB _).setCell (p := ⟨D, 2, none⟩) hB _⟩
  simp [World.setCell, Array.getElem?_modify, hD]
theorem tok_cells {w : World} {D : Nat} {a b c : Value} (hd : w.heap[D]? = some (.cells #[a, b, c] 169 (0, 0))) : w.cell? ⟨D, 0, none⟩ = some a ∧ w.cell? ⟨D, 1, none⟩ = some b ∧ w.cell? ⟨D, 2, none⟩ = some c ∧ w.frozen? ⟨D, 0, none⟩ = false ∧ w.frozen? ⟨D, 1, none⟩ = false ∧ w.frozen? ⟨D, 2, none⟩ = false := by
  simp [World.cell?, World.frozen?, hd]
end Go.Proofs.YtgmhigjhooihdaaGreatDoor
