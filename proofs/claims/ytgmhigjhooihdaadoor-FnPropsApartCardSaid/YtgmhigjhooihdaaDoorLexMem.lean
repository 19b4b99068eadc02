/- The lexer in memory, and its small methods. -/
import Derived.Test.YtgmhigjhooihdaaDoorLexLaw
import Derived.Deep.QuietTactic
import Derived.Deep.RegionLaw
import Derived.Deep.AppendLies
import Derived.Maps.AppendAt
import Derived.BigQuiet
import Derived.OneCell
import Derived.BigRegion
import Derived.Test.YtgmhigjhooihdaaDoorDec
import Derived.LoopTactic
import Derived.Lib.QuoteLoop
import Derived.Lib.ConvBytes
import Derived.Deep.OwnRows
import Derived.Handy
import Derived.WalkMore
import Derived.Laws.EntriesVeiled
import Derived.OwnWalk
import Derived.Test.YtgmhigjhooihdaaDoorParLaw
import Derived.Defers
import Derived.Recover
import Derived.Laws.Pointers
import Derived.Stop.Asserts
set_option linter.unusedVariables false
namespace Go.Proofs.YtgmhigjhooihdaaDoor
open Go.RowKit Plain

/-- an item's three cells -/
def itemC (x : LI) : List Value := [.int .i64 (x.kind : Int), .int .i64 (x.pos : Int), .string x.text]
def itemsC (l : List LI) : List Value := (l.map itemC).flatten
theorem itemsC_snoc (l : List LI) (x : LI) : itemsC (l ++ [x]) = itemsC l ++ itemC x := by simp [itemsC]
theorem row_ne {w : World} {base sz : Nat} {e : TypeId} {v : Value} {n : Nat} {xs : List Value} (h : w.ownsRow base e sz v n xs) {k : Nat} {c : Array Value} {t : TypeId} {x : Nat × Nat} (g : w.heap[k]? = some (.cells c t x)) (ht : e ≠ t) : v.ownBlock ≠ some k := by
  intro hv
  rcases h.2 with ⟨h0, _⟩ | ⟨g', cap, cur, h0, _, h2, _⟩
  · rw [h0] at hv; cases hv
  · rw [h0] at hv
    obtain rfl : g' = k := Option.some.inj hv
    rw [h2] at g
    injection g with g
    injection g with _ g2
    exact ht g2
theorem row_keep {w w' : World} {base sz : Nat} {e : TypeId} {v : Value} {n : Nat} {xs : List Value} (h : w.ownsRow base e sz v n xs) (k : ∀ g, v.ownBlock = some g → w'.heap[g]? = w.heap[g]?) : w'.ownsRow base e sz v n xs := by
  refine ⟨h.1, ?_⟩
  rcases h.2 with hn | ⟨g, cap, cur, hv, h1, h2, h3⟩
  · exact .inl hn
  · exact .inr ⟨g, cap, cur, hv, h1, (k g (by rw [hv]; rfl)).trans h2, h3⟩
theorem row_lt {w : World} {base sz : Nat} {e : TypeId} {v : Value} {n : Nat} {xs : List Value} (h : w.ownsRow base e sz v n xs) {g : Nat} (hg : v.ownBlock = some g) : base ≤ g ∧ g < w.heap.size := by
  rcases h.2 with ⟨hv, _⟩ | ⟨g', cap, cur, hv, h1, h2, h3⟩
  · rw [hv] at hg; cases hg
  · rw [hv] at hg
    obtain rfl : g' = g := Option.some.inj hg
    exact ⟨h1, (Array.getElem?_eq_some_iff.1 h2).1⟩
theorem lx_lt {w : World} {k : Nat} {c : Array Value} {t : TypeId} {x : Nat × Nat} (h : w.heap[k]? = some (.cells c t x)) : k < w.heap.size := (Array.getElem?_eq_some_iff.1 h).1
theorem lx_set {w : World} {k : Nat} {cs : Array Value} {t : TypeId} (h : w.heap[k]? = some (.cells cs t (0, 0))) (i : Nat) (u : Value) : (w.setCell ⟨k, i, none⟩ u).heap[k]? = some (.cells (cs.setIfInBounds i u) t (0, 0)) := by
  simp only [World.setCell, Array.getElem?_modify, if_true, h, Option.map_some]
  rfl
theorem lx_cells {w : World} {k : Nat} {a b c d e f g h : Value} {t : TypeId} (hb : w.heap[k]? = some (.cells #[a, b, c, d, e, f, g, h] t (0, 0))) :
    w.cell? ⟨k, 0, none⟩ = some a ∧ w.cell? ⟨k, 2, none⟩ = some c ∧ w.cell? ⟨k, 3, none⟩ = some d ∧ w.cell? ⟨k, 4, none⟩ = some e ∧ w.cell? ⟨k, 6, none⟩ = some g ∧ w.cell? ⟨k, 7, none⟩ = some h ∧ w.frozen? ⟨k, 1, none⟩ = false ∧ w.frozen? ⟨k, 2, none⟩ = false ∧ w.frozen? ⟨k, 3, none⟩ = false ∧ w.frozen? ⟨k, 4, none⟩ = false ∧ w.frozen? ⟨k, 6, none⟩ = false ∧ w.frozen? ⟨k, 7, none⟩ = false := by
  simp [World.cell?, World.frozen?, hb]
theorem bel_drewN (B : Nat) (w : World) (n : Nat) : Below B w (w.drewN n) := ⟨rfl, rfl, rfl, Nat.le_refl _, fun _ _ => rfl⟩
/-- a row beside a struct whose field is written -/
theorem row_set {w : World} {base sz k i : Nat} {e t : TypeId} {v u : Value} {n : Nat} {xs : List Value} {cs : Array Value} (h : w.ownsRow base e sz v n xs) (hb : w.heap[k]? = some (.cells cs t (0, 0))) (ht : e ≠ t) : (w.setCell ⟨k, i, none⟩ u).ownsRow base e sz v n xs :=
  row_keep h (fun g hg => Below.heap_setCell _ _ _ _ (fun e => row_ne h hb ht (by rw [hg]; exact congrArg some (by first | exact e | exact e.symm))))
/-- the world below B is as it was, and the decoder's tables lie there -/
def TabsL (B : Nat) (w : World) : Prop := ∀ w', Below B w w' → Tabs w'
theorem TabsL.below {B : Nat} {w w' : World} (h : TabsL B w) (hb : Below B w w') : TabsL B w' := fun _ k => h _ (hb.trans k)
theorem TabsL.tabs {B : Nat} {w : World} (h : TabsL B w) : Tabs w := h w (Below.refl _ _)
theorem tabsL_of {w0 w : World} (h : Tabs w0) (hb : Below w0.heap.size w0 w) : TabsL w0.heap.size w := fun _ k => h.below (hb.trans k)
theorem decGo_at (s : ByteArray) (p : Nat) (h : p < s.size) : Lib.decodeGo (s.extract p s.size) = (rAt s p, kAt s p) := by
  have ht := rest_of s p
  unfold Lib.decodeGo
  rw [if_neg (by rw [ht.2]; omega), ← Lib.decodeL_drop, List.drop_zero, ht.1, Lib.decodeL_drop]
  rfl
structure BW (w9 : World) where
  val : World
  prop : Below w9.heap.size w9 val
theorem wp_region_quiet_c {P : Program} {C : World → Prop} {id : Nat} {Q : Exit → Act → World → Prop} {a : Act} {w : World} {l : List Oper} (hm : P.follows .mixedOrders = true) (hB : Region.lexB .any l.toArray = true) (hC : C { w with drawn := w.drawn + 1 })
    (h : wpQuiet P l.toArray C (fun a' => ∀ w', C w' → Q .normal a' w') l a) : (Code.region id l.toArray true).wp P Q a w :=
  wp_region_quiet hm hB hC (by simpa using h)
/-- all blocks but lb are kept -/
def KeepB (lb : Nat) (w w' : World) : Prop := w.heap.size ≤ w'.heap.size ∧ ∀ j, j < w.heap.size → j ≠ lb → w'.heap[j]? = w.heap[j]?
theorem KeepB.of {lb : Nat} {w w' : World} (h : Below w.heap.size w w') : KeepB lb w w' := ⟨h.size, fun j hj _ => h.block j hj⟩
theorem KeepB.set {lb : Nat} {w w' : World} (h : KeepB lb w w') (i : Nat) (v : Value) : KeepB lb w (w'.setCell ⟨lb, i, none⟩ v) := ⟨by simpa [World.setCell] using h.1, fun j hj hn => (Below.heap_setCell _ _ _ _ hn).trans (h.2 j hj hn)⟩
theorem KeepB.trans {lb : Nat} {w w1 w2 : World} (h : KeepB lb w w1) (k : KeepB lb w1 w2) : KeepB lb w w2 := ⟨Nat.le_trans h.1 k.1, fun j hj hn => (k.2 j (Nat.lt_of_lt_of_le hj h.1) hn).trans (h.2 j hj hn)⟩
theorem infoRune : (Tryd.prog.info? 21).map (fun i => (i.zero, i.size, i.bytes)) = some (some (.int .i32 0), 1, 4) := by kernel_rfl
theorem row_two {w w1 : World} {B sz1 sz2 : Nat} {e1 e2 : TypeId} {v1 v2 : Value} {n1 n2 : Nat} {x1 x2 : List Value} (h1 : w.ownsRow B e1 sz1 v1 n1 x1) (h2 : w.ownsRow B e2 sz2 v2 n2 x2) (ht : e1 ≠ e2) (hg : w.grownBy w1 v1.ownBlock) : w1.ownsRow B e2 sz2 v2 n2 x2 :=
  row_keep h2 (fun g hg2 => hg.block g (row_lt h2 hg2).2 (fun e => by
    rcases h2.2 with ⟨h0, _⟩ | ⟨g', cap, cur, h0, _, h3, _⟩
    · rw [h0] at hg2; cases hg2
    · rw [h0] at hg2
      obtain rfl : g' = g := Option.some.inj hg2
      exact row_ne h1 h3 ht e.symm))
end Go.Proofs.YtgmhigjhooihdaaDoor


set_option linter.unusedVariables false
namespace Go.Proofs.YtgmhigjhooihdaaDoor
open Go.RowKit Plain

theorem cell_three_new (w : World) (a b c : Value) (t : TypeId) : ∀ j u, ([a, b, c] : List Value)[j]? = some u → (w.alloc (.cells #[a, b, c] t)).cell? ((⟨w.heap.size, 0, none⟩ : Addr).add j) = some u := by
  intro j u hu
  rw [add_at, Nat.zero_add, World.cell?_alloc_new]
  simpa using hu
theorem row_empty {w : World} {base : Nat} {e : TypeId} {g n cap : Nat} {xs : List Value} (h : w.ownsRow base e 1 (.slice (some ⟨g, 0, none⟩) n cap) n xs) : w.ownsRow base e 1 (.slice (some ⟨g, 0, none⟩) 0 cap) 0 [] := by
  rcases h.2 with ⟨hv, _⟩ | ⟨g', cap', cur, hv, h1, h2, h3, h4, h5, h6⟩
  · cases hv
  · injection hv with hv1 hv2 hv3
    injection hv1 with hv1
    injection hv1 with hv1
    subst hv1
    subst hv3
    exact ⟨rfl, .inr ⟨g, cap, cur, rfl, h1, h2, Nat.zero_le _, h4, h5, by simp⟩⟩
end Go.Proofs.YtgmhigjhooihdaaDoor


set_option linter.unusedVariables false
namespace Go.Proofs.YtgmhigjhooihdaaDoor
open Go.RowKit Plain

/-- a character that is written as it is -/
def NiceR (R : Nat) : Prop := 48 ≤ R ∧ R < 128 ∧ R ≠ 58 ∧ R ≠ 61 ∧ R ≠ 92
set_option maxHeartbeats 4000000 in
set_option maxRecDepth 100000 in
theorem zi_no (q : ByteArray) (R : Nat) (w : World) (hR : R < 128) (hq : q.size ≤ 100) (hn : ∀ pos, pos < q.size → (Utf8.decode q pos).1 ≠ R) :
    Calls Tryd.prog 39 #[.string q, .int .i32 (R : Int)] w fun e w' => e = .returned (.int .i64 (-1)) ∧ Below w.heap.size w w' := by
  have c1 : ¬ (R : Int) < 0 := by omega
  have c2 : ¬ (1114111 : Int) < (R : Int) := by omega
  have c3 : ¬ (55296 : Int) ≤ (R : Int) := by omega
  have c4 : ((R : Int) == 65533) = false := by rw [beq_eq_false_iff_ne]; omega
  have HN := Lib.hid hn
  clear hn
  go_enter Tryd.func39, Tryd.ntmps39
  go_wp2
  go_loopw [5, 6] (fun pv cv wr => ∃ (pos : Nat), wr.heap[w.heap.size]? = some (.stringIter q pos) ∧ pos ≤ q.size + 4 ∧ Below w.heap.size w wr) (fun _ _ wr => q.size + 4 - wr.iterPos w.heap.size)
  case atStart => exact ⟨0, World.iter_heap w q 0, by omega, (Below.refl _ w).alloc (Nat.le_refl _) _⟩
  case round =>
    obtain ⟨pos, hit, hps, hbw⟩ := hrel
    by_cases hp : pos < q.size
    · have hnx : ∀ ty, (Instr.next (.pointer (some ⟨w.heap.size, 0, none⟩)) true ty).run Tryd.prog wr = _ := fun ty => Lib.run_next_any_at wr w.heap.size q pos ty hit hp
      have hwd := Lib.decode_width_pos q pos hp
      have hd1 := decode_le q pos
      have hw4 : (Utf8.decode q pos).2 ≤ 4 := by rw [Lib.decode_at]; unfold Lib.decodeN; (repeat' split) <;> simp
      have hne := HN.out pos hp
      have hit2 := Lib.iterAt_heap wr w.heap.size q pos (pos + (Utf8.decode q pos).2) hit
      have hbw2 := Lib.below_iterAt hbw (k := w.heap.size) (Nat.le_refl _) q (pos + (Utf8.decode q pos).2)
      obtain ⟨C, hC⟩ : ∃ C, (Utf8.decode q pos).1 = C := ⟨_, rfl⟩
      obtain ⟨K, hK⟩ : ∃ K, (Utf8.decode q pos).2 = K := ⟨_, rfl⟩
      rw [hC] at hd1 hne
      rw [hK] at hwd hw4 hit2 hbw2
      rw [hC, hK] at hnx
      clear hC hK
      have hcz : ((C : Int) == (R : Int)) = false := by rw [beq_eq_false_iff_ne]; omega
      obtain ⟨V, hV⟩ : ∃ V, wr.iterAt w.heap.size q (pos + K) = V := ⟨_, rfl⟩
      rw [hV] at hnx hit2 hbw2
      have HI := Lib.hid hit
      have HI2 := Lib.hid hit2
      have HB2 := Lib.hid hbw2
      clear hV hit hit2 hbw hbw2 hne
      go_wp2
      go_roundw
      case rel => exact ⟨pos + K, HI2.out, by omega, HB2.out⟩
      case measure =>
        have h1 := HI.out; have h2 := HI2.out
        rw [iterPos_of h2, iterPos_of h1]
        omega
    · have hnx : ∀ ty, (Instr.next (.pointer (some ⟨w.heap.size, 0, none⟩)) true ty).run Tryd.prog wr = _ := fun ty => Lib.run_next_end_at wr w.heap.size q pos ty hit hp
      have HB2 := Lib.hid hbw
      clear hbw
      go_wp2
      go_ret
      exact ⟨rfl, HB2.out⟩
theorem zc_no (q : ByteArray) (R : Nat) (w : World) (hR : R < 128) (hq : q.size ≤ 100) (hn : ∀ pos, pos < q.size → (Utf8.decode q pos).1 ≠ R) :
    Calls Tryd.prog 36 #[.string q, .int .i32 (R : Int)] w fun e w' => e = .returned (.bool false) ∧ Below w.heap.size w w' := by
  have HZ := Lib.hid (zi_no q R w hR hq hn)
  go_enter Tryd.func36, Tryd.ntmps36
  go_wp2_with (go_at_call 39; (with_reducible refine HZ.out.mono ?_); rintro e w1 ⟨rfl, hb1⟩; dsimp only)
  go_ret
  exact ⟨rfl, hb1⟩
set_option maxHeartbeats 4000000 in
set_option maxRecDepth 100000 in
theorem escape_nice (q : ByteArray) (R : Nat) (w : World) (h : NiceR R) (hq : q.size ≤ 100) (hn : ∀ pos, pos < q.size → (Utf8.decode q pos).1 ≠ R) :
    Calls Tryd.prog 30 #[.int .i32 (R : Int), .string q] w fun e w' => e = .returned (.string (Utf8.encode (R : Int))) ∧ Below w.heap.size w w' := by
  obtain ⟨h1, h2, h3, h4, h5⟩ := h
  have HZ := Lib.hid (zc_no q R w h2 hq hn)
  have d1 : ((R : Int) == 12) = false := by rw [beq_eq_false_iff_ne]; omega
  have d2 : ((R : Int) == 10) = false := by rw [beq_eq_false_iff_ne]; omega
  have d3 : ((R : Int) == 13) = false := by rw [beq_eq_false_iff_ne]; omega
  have d4 : ((R : Int) == 9) = false := by rw [beq_eq_false_iff_ne]; omega
  have d5 : ((R : Int) == 92) = false := by rw [beq_eq_false_iff_ne]; omega
  clear h3 h4 h5 hn
  go_enter Tryd.func30, Tryd.ntmps30
  go_wp2_with (go_at_call 36; (with_reducible refine HZ.out.mono ?_); rintro e w1 ⟨rfl, hb1⟩; dsimp only)
  go_ret
  exact ⟨rfl, hb1⟩
end Go.Proofs.YtgmhigjhooihdaaDoor


set_option linter.unusedVariables false
namespace Go.Proofs.YtgmhigjhooihdaaDoor
open Go.RowKit Plain

/-- where a rune stands in a text from 'pos' on; -1: nowhere -/
def ziF (q : ByteArray) (R : Nat) (pos : Nat) : Int :=
  if h : pos < q.size then
    if (Utf8.decode q pos).1 = R then (pos : Int)
    else ziF q R (pos + (Utf8.decode q pos).2)
  else -1
termination_by q.size - pos
decreasing_by
  have := Lib.decode_width_pos q pos h
  omega
theorem ziF_bd (q : ByteArray) (R : Nat) (pos : Nat) : -1 ≤ ziF q R pos ∧ ziF q R pos < (q.size : Int) + 1 := by
  fun_induction ziF q R pos <;> omega
/-- a rune that has no case of its own in zzIndexRune -/
def SmallR (R : Nat) : Prop := R ≤ 1114111 ∧ (R < 55296 ∨ 57343 < R) ∧ R ≠ 65533
set_option maxHeartbeats 4000000 in
set_option maxRecDepth 100000 in
theorem zi_any (q : ByteArray) (R : Nat) (w : World) (hR : SmallR R) (hq : q.size ≤ 100) (Z : Int) (hZ : ziF q R 0 = Z) :
    Calls Tryd.prog 39 #[.string q, .int .i32 (R : Int)] w fun e w' => e = .returned (.int .i64 Z) ∧ Below w.heap.size w w' := by
  obtain ⟨hR1, hR2, hR3⟩ := hR
  have c1 : ¬ (R : Int) < 0 := by omega
  have c2 : ¬ (1114111 : Int) < (R : Int) := by omega
  have c4 : ((R : Int) == 65533) = false := by rw [beq_eq_false_iff_ne]; omega
  have HZ := Lib.hid hZ
  clear hZ
  rcases hR2 with hlo | hhi
  rotate_left
  have c3 : (55296 : Int) ≤ (R : Int) := by omega
  have c5 : ¬ (R : Int) ≤ 57343 := by omega
  rotate_left
  have c3 : ¬ (55296 : Int) ≤ (R : Int) := by omega
  all_goals
    go_enter Tryd.func39, Tryd.ntmps39
    go_wp2
    go_loopw [5, 6] (fun pv cv wr => ∃ (pos : Nat), wr.heap[w.heap.size]? = some (.stringIter q pos) ∧ pos ≤ q.size + 4 ∧ Below w.heap.size w wr ∧ Hid (ziF q R pos = Z)) (fun _ _ wr => q.size + 4 - wr.iterPos w.heap.size)
    case atStart => exact ⟨0, World.iter_heap w q 0, by omega, (Below.refl _ w).alloc (Nat.le_refl _) _, HZ⟩
    case round =>
      obtain ⟨pos, hit, hps, hbw, HP⟩ := hrel
      by_cases hp : pos < q.size
      · have hnx : ∀ ty, (Instr.next (.pointer (some ⟨w.heap.size, 0, none⟩)) true ty).run Tryd.prog wr = _ := fun ty => Lib.run_next_any_at wr w.heap.size q pos ty hit hp
        have hwd := Lib.decode_width_pos q pos hp
        have hd1 := decode_le q pos
        have hw4 : (Utf8.decode q pos).2 ≤ 4 := by rw [Lib.decode_at]; unfold Lib.decodeN; (repeat' split) <;> simp
        have hst := HP.out
        rw [ziF, dif_pos hp] at hst
        have hit2 := Lib.iterAt_heap wr w.heap.size q pos (pos + (Utf8.decode q pos).2) hit
        have hbw2 := Lib.below_iterAt hbw (k := w.heap.size) (Nat.le_refl _) q (pos + (Utf8.decode q pos).2)
        obtain ⟨C, hC⟩ : ∃ C, (Utf8.decode q pos).1 = C := ⟨_, rfl⟩
        obtain ⟨K, hK⟩ : ∃ K, (Utf8.decode q pos).2 = K := ⟨_, rfl⟩
        rw [hC] at hd1 hst
        rw [hK] at hwd hw4 hit2 hbw2 hst
        rw [hC, hK] at hnx
        clear hC hK
        obtain ⟨V, hV⟩ : ∃ V, wr.iterAt w.heap.size q (pos + K) = V := ⟨_, rfl⟩
        rw [hV] at hnx hit2 hbw2
        have HI := Lib.hid hit
        have HI2 := Lib.hid hit2
        have HB2 := Lib.hid hbw2
        clear hV hit hit2 hbw hbw2
        by_cases he : C = R
        · rw [if_pos he] at hst
          have HST := Lib.hid hst
          subst he
          clear hst
          go_wp2
          go_ret
          exact ⟨congrArg (fun z => Ending.returned (.int .i64 z)) HST.out, HB2.out⟩
        · rw [if_neg he] at hst
          have HST := Lib.hid hst
          have hcz : ((C : Int) == (R : Int)) = false := by rw [beq_eq_false_iff_ne]; omega
          clear hst he
          go_wp2
          go_roundw
          case rel => exact ⟨pos + K, HI2.out, by omega, HB2.out, HST⟩
          case measure =>
            have h1 := HI.out; have h2 := HI2.out
            rw [iterPos_of h2, iterPos_of h1]
            omega
      · have hnx : ∀ ty, (Instr.next (.pointer (some ⟨w.heap.size, 0, none⟩)) true ty).run Tryd.prog wr = _ := fun ty => Lib.run_next_end_at wr w.heap.size q pos ty hit hp
        have hst := HP.out
        rw [ziF, dif_neg hp] at hst
        have HST := Lib.hid hst
        have HB2 := Lib.hid hbw
        clear hbw hst
        go_wp2
        go_ret
        exact ⟨congrArg (fun z => Ending.returned (.int .i64 z)) HST.out, HB2.out⟩
theorem zc_any (q : ByteArray) (R : Nat) (w : World) (hR : SmallR R) (hq : q.size ≤ 100) (b : Bool) (hb : decide (0 ≤ ziF q R 0) = b) :
    Calls Tryd.prog 36 #[.string q, .int .i32 (R : Int)] w fun e w' => e = .returned (.bool b) ∧ Below w.heap.size w w' := by
  obtain ⟨Z, hZ⟩ : ∃ Z, ziF q R 0 = Z := ⟨_, rfl⟩
  have HZ := Lib.hid (zi_any q R w hR hq Z hZ)
  rw [hZ] at hb
  clear hZ
  by_cases h : 0 ≤ Z
  · obtain rfl : b = true := by rw [← hb]; simp [h]
    clear hb
    go_enter Tryd.func36, Tryd.ntmps36
    go_wp2_with (go_at_call 39; (with_reducible refine HZ.out.mono ?_); rintro e w1 ⟨rfl, hb1⟩; dsimp only)
    go_ret
    exact ⟨rfl, hb1⟩
  · obtain rfl : b = false := by rw [← hb]; simp [h]
    clear hb
    go_enter Tryd.func36, Tryd.ntmps36
    go_wp2_with (go_at_call 39; (with_reducible refine HZ.out.mono ?_); rintro e w1 ⟨rfl, hb1⟩; dsimp only)
    go_ret
    exact ⟨rfl, hb1⟩
end Go.Proofs.YtgmhigjhooihdaaDoor


set_option linter.unusedVariables false
namespace Go.Proofs.YtgmhigjhooihdaaDoor
open Go.RowKit Plain

/-- a rune that a decoder gives -/
def RuneR (R : Nat) : Prop := R ≤ 1114111 ∧ (R < 55296 ∨ 57343 < R)
theorem rAt_ok (s : ByteArray) (p : Nat) : RuneR (rAt s p) := by
  unfold rAt
  rw [Lib.decode_at]
  have h := Lib.decodeN_valid (s.size - p) (s.get! p).toNat (s.get! (p + 1)).toNat (s.get! (p + 2)).toNat (s.get! (p + 3)).toNat (s.get! p).toNat_lt
  unfold RuneR
  omega
set_option maxHeartbeats 4000000 in
set_option maxRecDepth 100000 in
theorem zi_fffd (q : ByteArray) (R : Nat) (w : World) (hR : R = 65533) (hq : q.size ≤ 100) (Z : Int) (hZ : ziF q R 0 = Z) :
    Calls Tryd.prog 39 #[.string q, .int .i32 (R : Int)] w fun e w' => e = .returned (.int .i64 Z) ∧ Below w.heap.size w w' := by
  have c1 : ¬ (R : Int) < 0 := by omega
  have c2 : ¬ (1114111 : Int) < (R : Int) := by omega
  have c4 : (R : Int) = 65533 := by omega
  have c6 : ((65533 : Int) == 65533) = true := rfl
  have HZ := Lib.hid hZ
  clear hZ
  all_goals
    go_enter Tryd.func39, Tryd.ntmps39
    go_wp2
    go_loopw [5, 6] (fun pv cv wr => ∃ (pos : Nat), wr.heap[w.heap.size]? = some (.stringIter q pos) ∧ pos ≤ q.size + 4 ∧ Below w.heap.size w wr ∧ Hid (ziF q R pos = Z)) (fun _ _ wr => q.size + 4 - wr.iterPos w.heap.size)
    case atStart => exact ⟨0, World.iter_heap w q 0, by omega, (Below.refl _ w).alloc (Nat.le_refl _) _, HZ⟩
    case round =>
      obtain ⟨pos, hit, hps, hbw, HP⟩ := hrel
      by_cases hp : pos < q.size
      · have hnx : ∀ ty, (Instr.next (.pointer (some ⟨w.heap.size, 0, none⟩)) true ty).run Tryd.prog wr = _ := fun ty => Lib.run_next_any_at wr w.heap.size q pos ty hit hp
        have hwd := Lib.decode_width_pos q pos hp
        have hd1 := decode_le q pos
        have hw4 : (Utf8.decode q pos).2 ≤ 4 := by rw [Lib.decode_at]; unfold Lib.decodeN; (repeat' split) <;> simp
        have hst := HP.out
        rw [ziF, dif_pos hp] at hst
        have hit2 := Lib.iterAt_heap wr w.heap.size q pos (pos + (Utf8.decode q pos).2) hit
        have hbw2 := Lib.below_iterAt hbw (k := w.heap.size) (Nat.le_refl _) q (pos + (Utf8.decode q pos).2)
        obtain ⟨C, hC⟩ : ∃ C, (Utf8.decode q pos).1 = C := ⟨_, rfl⟩
        obtain ⟨K, hK⟩ : ∃ K, (Utf8.decode q pos).2 = K := ⟨_, rfl⟩
        rw [hC] at hd1 hst
        rw [hK] at hwd hw4 hit2 hbw2 hst
        rw [hC, hK] at hnx
        clear hC hK
        obtain ⟨V, hV⟩ : ∃ V, wr.iterAt w.heap.size q (pos + K) = V := ⟨_, rfl⟩
        rw [hV] at hnx hit2 hbw2
        have HI := Lib.hid hit
        have HI2 := Lib.hid hit2
        have HB2 := Lib.hid hbw2
        clear hV hit hit2 hbw hbw2
        by_cases he : C = R
        · rw [if_pos he] at hst
          have HST := Lib.hid hst
          subst he
          clear hst
          go_wp2
          go_ret
          exact ⟨congrArg (fun z => Ending.returned (.int .i64 z)) HST.out, HB2.out⟩
        · rw [if_neg he] at hst
          have HST := Lib.hid hst
          have hcz : ((C : Int) == (R : Int)) = false := by rw [beq_eq_false_iff_ne]; omega
          clear hst he
          go_wp2
          go_roundw
          case rel => exact ⟨pos + K, HI2.out, by omega, HB2.out, HST⟩
          case measure =>
            have h1 := HI.out; have h2 := HI2.out
            rw [iterPos_of h2, iterPos_of h1]
            omega
      · have hnx : ∀ ty, (Instr.next (.pointer (some ⟨w.heap.size, 0, none⟩)) true ty).run Tryd.prog wr = _ := fun ty => Lib.run_next_end_at wr w.heap.size q pos ty hit hp
        have hst := HP.out
        rw [ziF, dif_neg hp] at hst
        have HST := Lib.hid hst
        have HB2 := Lib.hid hbw
        clear hbw hst
        go_wp2
        go_ret
        exact ⟨congrArg (fun z => Ending.returned (.int .i64 z)) HST.out, HB2.out⟩

theorem zi_rune (q : ByteArray) (R : Nat) (w : World) (hR : RuneR R) (hq : q.size ≤ 100) (Z : Int) (hZ : ziF q R 0 = Z) :
    Calls Tryd.prog 39 #[.string q, .int .i32 (R : Int)] w fun e w' => e = .returned (.int .i64 Z) ∧ Below w.heap.size w w' := by
  by_cases h : R = 65533
  · exact zi_fffd q R w h hq Z hZ
  · exact zi_any q R w ⟨hR.1, hR.2, h⟩ hq Z hZ
theorem zi_eof (q : ByteArray) (w : World) :
    Calls Tryd.prog 39 #[.string q, .int .i32 (-1)] w fun e w' => e = .returned (.int .i64 (-1)) ∧ w = w' := by
  go_enter Tryd.func39, Tryd.ntmps39
  go_wp2
  go_ret
  exact ⟨rfl, rfl⟩
theorem zc_eof (q : ByteArray) (w : World) :
    Calls Tryd.prog 36 #[.string q, .int .i32 (-1)] w fun e w' => e = .returned (.bool false) ∧ w = w' := by
  have HZ := Lib.hid (zi_eof q w)
  go_enter Tryd.func36, Tryd.ntmps36
  go_wp2_with (go_at_call 39; (with_reducible refine HZ.out.mono ?_); rintro e w1 ⟨rfl, rfl⟩; dsimp only)
  go_ret
  exact ⟨rfl, rfl⟩
theorem zc_rune (q : ByteArray) (R : Nat) (w : World) (hR : RuneR R) (hq : q.size ≤ 100) (b : Bool) (hb : decide (0 ≤ ziF q R 0) = b) :
    Calls Tryd.prog 36 #[.string q, .int .i32 (R : Int)] w fun e w' => e = .returned (.bool b) ∧ Below w.heap.size w w' := by
  obtain ⟨Z, hZ⟩ : ∃ Z, ziF q R 0 = Z := ⟨_, rfl⟩
  have HZ := Lib.hid (zi_rune q R w hR hq Z hZ)
  rw [hZ] at hb
  clear hZ
  by_cases h : 0 ≤ Z
  · obtain rfl : b = true := by rw [← hb]; simp [h]
    clear hb
    go_enter Tryd.func36, Tryd.ntmps36
    go_wp2_with (go_at_call 39; (with_reducible refine HZ.out.mono ?_); rintro e w1 ⟨rfl, hb1⟩; dsimp only)
    go_ret
    exact ⟨rfl, hb1⟩
  · obtain rfl : b = false := by rw [← hb]; simp [h]
    clear hb
    go_enter Tryd.func36, Tryd.ntmps36
    go_wp2_with (go_at_call 39; (with_reducible refine HZ.out.mono ?_); rintro e w1 ⟨rfl, hb1⟩; dsimp only)
    go_ret
    exact ⟨rfl, hb1⟩
theorem get_bang (q : ByteArray) (p : Nat) (h : p < q.size) : q.get! p = q[p]'h := by
  unfold ByteArray.get!
  exact getElem!_pos q.data p h
theorem dec_asc (q : ByteArray) (p : Nat) (h : p < q.size) (ha : (q[p]'h).toNat < 128) : Utf8.decode q p = ((q[p]'h).toNat, 1) := by
  rw [Lib.decode_at]
  have e : (q.get! p).toNat = (q[p]'h).toNat := by rw [get_bang q p h]
  rw [e]
  exact decodeN_ascii' _ _ _ _ _ ha
/-- a byte of that number stands in a text -/
def hasB (l : List UInt8) (R : Nat) : Bool := l.any fun b => b.toNat == R
theorem ziF_has (q : ByteArray) (R : Nat) (ha : ∀ b ∈ q.data.toList, b.toNat < 128) : ∀ pos, decide (0 ≤ ziF q R pos) = hasB (q.data.toList.drop pos) R := by
  intro pos
  fun_induction ziF q R pos with
  | case1 pos h he =>
    have hl : pos < q.data.toList.length := by rw [← Lib.size_eq]; exact h
    have hd := dec_asc q pos h (ha _ (by show q.data[pos] ∈ _; simp))
    rw [List.drop_eq_getElem_cons hl]
    unfold hasB
    rw [List.any_cons]
    rw [hd] at he
    have : (q.data.toList[pos]).toNat = R := he
    rw [this]
    simp
  | case2 pos h he ih =>
    have hl : pos < q.data.toList.length := by rw [← Lib.size_eq]; exact h
    have hd := dec_asc q pos h (ha _ (by show q.data[pos] ∈ _; simp))
    rw [hd] at ih he ⊢
    rw [ih, List.drop_eq_getElem_cons hl]
    unfold hasB
    rw [List.any_cons]
    have : ((q.data.toList[pos]).toNat == R) = false := by rw [beq_eq_false_iff_ne]; exact he
    rw [this, Bool.false_or]
  | case3 pos h =>
    rw [List.drop_eq_nil_of_le (by rw [← Lib.size_eq]; omega)]
    rfl
theorem z_isWs (R : Nat) (w : World) (hR : RuneR R) (b : Bool) (hb : wsR R = b) :
    Calls Tryd.prog 36 #[.string ⟨#[32, 12, 9]⟩, .int .i32 (R : Int)] w fun e w' => e = .returned (.bool b) ∧ Below w.heap.size w w' := by
  refine zc_rune _ R w hR (by decide) b ?_
  rw [ziF_has _ R (by decide), ← hb]
  show hasB [32, 12, 9] R = _
  unfold hasB wsR
  rw [Bool.eq_iff_iff]
  simp
  omega
theorem z_isEnd (R : Nat) (w : World) (hR : RuneR R) (b : Bool) (hb : endK R = b) :
    Calls Tryd.prog 36 #[.string ⟨#[32, 12, 9, 13, 10, 58, 61]⟩, .int .i32 (R : Int)] w fun e w' => e = .returned (.bool b) ∧ Below w.heap.size w w' := by
  refine zc_rune _ R w hR (by decide) b ?_
  rw [ziF_has _ R (by decide), ← hb]
  show hasB [32, 12, 9, 13, 10, 58, 61] R = _
  unfold hasB endK
  rw [Bool.eq_iff_iff]
  simp
  omega
theorem z_isEscC (R : Nat) (w : World) (hR : RuneR R) (b : Bool) (hb : escC R = b) :
    Calls Tryd.prog 36 #[.string ⟨#[32, 58, 61, 102, 110, 114, 116]⟩, .int .i32 (R : Int)] w fun e w' => e = .returned (.bool b) ∧ Below w.heap.size w w' := by
  refine zc_rune _ R w hR (by decide) b ?_
  rw [ziF_has _ R (by decide), ← hb]
  show hasB [32, 58, 61, 102, 110, 114, 116] R = _
  unfold hasB escC
  rw [Bool.eq_iff_iff]
  simp
  omega
def sepR (R : Nat) : Bool := R == 58 || R == 61
theorem z_sep (R : Nat) (w : World) (hR : RuneR R) (b : Bool) (hb : sepR R = b) :
    Calls Tryd.prog 36 #[.string ⟨#[58, 61]⟩, .int .i32 (R : Int)] w fun e w' => e = .returned (.bool b) ∧ Below w.heap.size w w' := by
  refine zc_rune _ R w hR (by decide) b ?_
  rw [ziF_has _ R (by decide), ← hb]
  show hasB [58, 61] R = _
  unfold hasB sepR
  rw [Bool.eq_iff_iff]
  simp
  omega
def hexB (R : Nat) : Bool := (hexR R).isSome
end Go.Proofs.YtgmhigjhooihdaaDoor


set_option linter.unusedVariables false
namespace Go.Proofs.YtgmhigjhooihdaaDoor
open Go.RowKit Plain

end Go.Proofs.YtgmhigjhooihdaaDoor


set_option linter.unusedVariables false
namespace Go.Proofs.YtgmhigjhooihdaaDoor
open Go.RowKit Plain

end Go.Proofs.YtgmhigjhooihdaaDoor


set_option linter.unusedVariables false
namespace Go.Proofs.YtgmhigjhooihdaaDoor
open Go.RowKit Plain

def digV (b : UInt8) : Nat := (hexR b.toNat).getD 0
def hexF (l : List UInt8) : Nat := l.foldl (fun a b => 16 * a + digV b) 0
def IsHex (l : List UInt8) : Prop := ∀ b ∈ l, (48 ≤ b.toNat ∧ b.toNat ≤ 57) ∨ (97 ≤ b.toNat ∧ b.toNat ≤ 102) ∨ (65 ≤ b.toNat ∧ b.toNat ≤ 70)
theorem digV_le (b : UInt8) : digV b ≤ 15 := by
  unfold digV hexR
  (repeat' split) <;> simp <;> omega
theorem hexF_snoc (l : List UInt8) (b : UInt8) : hexF (l ++ [b]) = 16 * hexF l + digV b := by simp [hexF]
theorem hexF_lt : ∀ (n : Nat) (l : List UInt8), l.length ≤ n → hexF l < 16 ^ n := by
  intro n
  induction n with
  | zero =>
    intro l h
    have h0 : l = [] := List.eq_nil_of_length_eq_zero (by omega)
    subst h0
    decide
  | succ n ih =>
    intro l h
    rcases List.eq_nil_or_concat l with rfl | ⟨l', b, rfl⟩
    · exact Nat.pow_pos (by decide)
    · have h1 := ih l' (by simp at h; omega)
      rw [List.concat_eq_append, hexF_snoc, Nat.pow_succ]
      have := digV_le b
      omega
theorem or32 (c : Nat) (h : (97 ≤ c ∧ c ≤ 102) ∨ (65 ≤ c ∧ c ≤ 70)) : bits .or .u8 (c : Int) 32 = (if 97 ≤ c then (c : Int) else (c : Int) + 32) := by
  have key : ∀ x : Fin 128, ((97 ≤ x.val ∧ x.val ≤ 102) ∨ (65 ≤ x.val ∧ x.val ≤ 70)) → bits .or .u8 ((x.val : Nat) : Int) 32 = (if 97 ≤ x.val then ((x.val : Nat) : Int) else ((x.val : Nat) : Int) + 32) := by decide +kernel
  exact key ⟨c, by omega⟩ h
end Go.Proofs.YtgmhigjhooihdaaDoor


set_option linter.unusedVariables false
namespace Go.Proofs.YtgmhigjhooihdaaDoor
open Go.RowKit Plain

/-- a new error with a text -/
def NewErr (q : ByteArray) (w : World) (e : Ending) (w' : World) : Prop := ∃ N : Nat, e = .returned (.iface 90 (.pointer (some ⟨N, 0, none⟩))) ∧ w'.cell? ⟨N, 0, none⟩ = some (.string q) ∧ Below w.heap.size w w'
theorem newErr_any (q : ByteArray) (w : World) : Calls Tryd.prog 32 #[.string q] w (NewErr q w) := by
  unfold NewErr
  go_enter Tryd.func32, Tryd.ntmps32
  go_wp2
  go_ret
  exact ⟨w.heap.size, rfl, by rw [World.cell?_alloc_new]; rfl, (Below.refl _ w).alloc (Nat.le_refl _) _⟩
def hexN (xs : List Nat) : Nat := xs.foldl (fun a r => 16 * a + (hexR r).getD 0) 0
theorem hexN_snoc (xs : List Nat) (r : Nat) : hexN (xs ++ [r]) = 16 * hexN xs + (hexR r).getD 0 := by simp [hexN]
def AllHex (xs : List Nat) : Prop := ∀ r ∈ xs, hexB r = true
theorem hexB_rng {R : Nat} (h : hexB R = true) : (48 ≤ R ∧ R ≤ 57) ∨ (97 ≤ R ∧ R ≤ 102) ∨ (65 ≤ R ∧ R ≤ 70) := by
  unfold hexB hexR at h
  (repeat' split at h) <;> simp at h <;> omega
theorem hexB_of {R : Nat} (h : (48 ≤ R ∧ R ≤ 57) ∨ (97 ≤ R ∧ R ≤ 102) ∨ (65 ≤ R ∧ R ≤ 70)) : hexB R = true := by
  unfold hexB hexR
  rcases h with h | h | h
  · rw [if_pos h]; rfl
  · rw [if_neg (by omega), if_pos h]; rfl
  · rw [if_neg (by omega), if_neg (by omega), if_pos h]; rfl
theorem z_hex (R : Nat) (w : World) (hR : RuneR R) (b : Bool) (hb : hexB R = b) :
    Calls Tryd.prog 36 #[.string ⟨#[48, 49, 50, 51, 52, 53, 54, 55, 56, 57, 97, 98, 99, 100, 101, 102, 65, 66, 67, 68, 69, 70]⟩, .int .i32 (R : Int)] w fun e w' => e = .returned (.bool b) ∧ Below w.heap.size w w' := by
  refine zc_rune _ R w hR (by decide) b ?_
  rw [ziF_has _ R (by decide), ← hb]
  show hasB [48, 49, 50, 51, 52, 53, 54, 55, 56, 57, 97, 98, 99, 100, 101, 102, 65, 66, 67, 68, 69, 70] R = _
  rw [Bool.eq_iff_iff]
  constructor
  · intro h
    unfold hasB at h
    simp at h
    exact hexB_of (by omega)
  · intro h
    have := hexB_rng h
    unfold hasB
    simp
    omega
theorem text_hex (xs : List Nat) (h : AllHex xs) : (textOf xs).data.toList = xs.map UInt8.ofNat ∧ IsHex (textOf xs).data.toList ∧ hexF (textOf xs).data.toList = hexN xs := by
  have e1 : (textOf xs).data.toList = xs.map UInt8.ofNat := by
    unfold textOf
    rw [List.toList_toArray]
    induction xs with
    | nil => rfl
    | cons r xs ih =>
      have hr := hexB_rng (h r List.mem_cons_self)
      have e2 : Lib.encodeRune (r : Int) = [UInt8.ofNat r] := by
        have key : ∀ X : Fin 128, Lib.encodeRune ((X.val : Nat) : Int) = [UInt8.ofNat X.val] := by decide +kernel
        exact key ⟨r, by omega⟩
      rw [List.map_cons, List.flatten_cons, ih (fun r' h' => h r' (List.mem_cons_of_mem _ h')), e2]
      rfl
  have hto : ∀ r ∈ xs, (UInt8.ofNat r).toNat = r := fun r hr => by
    have := hexB_rng (h r hr)
    rw [UInt8.toNat_ofNat']
    omega
  refine ⟨e1, ?_, ?_⟩
  · rw [e1]
    intro b hb
    obtain ⟨r, hr, rfl⟩ := List.mem_map.1 hb
    rw [hto r hr]
    exact hexB_rng (h r hr)
  · rw [e1]
    unfold hexF hexN
    rw [List.foldl_map]
    have : ∀ (ys : List Nat) (a : Nat), (∀ r ∈ ys, (UInt8.ofNat r).toNat = r) → List.foldl (fun x y => 16 * x + digV (UInt8.ofNat y)) a ys = List.foldl (fun a r => 16 * a + (hexR r).getD 0) a ys := by
      intro ys
      induction ys with
      | nil => intro a _; rfl
      | cons y ys ih =>
        intro a hy
        rw [List.foldl_cons, List.foldl_cons]
        have : digV (UInt8.ofNat y) = (hexR y).getD 0 := by unfold digV; rw [hy y List.mem_cons_self]
        rw [this]
        exact ih _ (fun r hr => hy r (List.mem_cons_of_mem _ hr))
    exact this xs 0 hto
abbrev litMsg : ByteArray := ⟨#[105, 110, 118, 97, 108, 105, 100, 32, 117, 110, 105, 99, 111, 100, 101, 32, 108, 105, 116, 101, 114, 97, 108]⟩
/-- a row of four runes -/
def Row4 (g : Nat) (xs : List Nat) (w : World) : Prop := w.heap[g]? = some (.cells (xs.map rcell ++ List.replicate (4 - xs.length) (Value.int .i32 0)).toArray 21 (0, 0))
theorem Row4.cell {g i : Nat} {xs : List Nat} {w : World} (h : Row4 g xs w) (hi : i < 4) (hl : xs.length = i) : w.cell? ⟨g, i, none⟩ = some (.int .i32 0) ∧ w.frozen? ⟨g, i, none⟩ = false := by
  unfold Row4 at h
  constructor
  · unfold World.cell?
    rw [h]
    obtain ⟨m, hm⟩ : ∃ m, 4 - i = m + 1 := ⟨3 - i, by omega⟩
    simp [hl, hm]
  · unfold World.frozen?
    rw [h]
    simp
theorem Row4.store {g : Nat} {xs : List Nat} {w : World} (h : Row4 g xs w) (hi : xs.length < 4) (r : Nat) : Row4 g (xs ++ [r]) (w.setCell ⟨g, xs.length, none⟩ (.int .i32 (r : Int))) := by
  unfold Row4 at h ⊢
  rw [lx_set h]
  congr 2
  apply Array.toList_inj.1
  simp only [Array.toList_setIfInBounds, List.map_append, List.length_append]
  rw [List.set_append_right _ _ (by simp)]
  obtain ⟨m, hm⟩ : ∃ m, 4 - xs.length = m + 1 := ⟨3 - xs.length, by omega⟩
  have hm2 : 4 - (xs.length + [r].length) = m := by simp; omega
  rw [hm, hm2]
  simp [List.replicate_succ, rcell]
end Go.Proofs.YtgmhigjhooihdaaDoor


set_option linter.unusedVariables false
namespace Go.Proofs.YtgmhigjhooihdaaDoor
open Go.RowKit Plain

end Go.Proofs.YtgmhigjhooihdaaDoor


set_option linter.unusedVariables false
namespace Go.Proofs.YtgmhigjhooihdaaDoor
open Go.RowKit Plain

theorem textOf_nil : textOf [] = emptyB := rfl
end Go.Proofs.YtgmhigjhooihdaaDoor


set_option linter.unusedVariables false
namespace Go.Proofs.YtgmhigjhooihdaaDoor
open Go.RowKit Plain

theorem keyL_eof {s : ByteArray} {p : Nat} {acc : List Nat} (h : ¬ p < s.size) : keyL s p acc = .ok (acc, p, true) := by rw [keyL, dif_neg h]
theorem keyL_end {s : ByteArray} {p : Nat} {acc : List Nat} (h : p < s.size) (h1 : ¬ rAt s p = 92) (h2 : endK (rAt s p) = true) : keyL s p acc = .ok (acc, p, false) := by rw [keyL, dif_pos h, if_neg h1, if_pos h2]
theorem keyL_chr {s : ByteArray} {p : Nat} {acc : List Nat} (h : p < s.size) (h1 : ¬ rAt s p = 92) (h2 : endK (rAt s p) = false) : keyL s p acc = keyL s (p + kAt s p) (acc ++ [rAt s p]) := by rw [keyL, dif_pos h, if_neg h1, if_neg (by rw [h2]; decide)]
theorem keyL_esc {s : ByteArray} {p : Nat} {acc : List Nat} (h : p < s.size) (h1 : rAt s p = 92) (x : Nat × Nat) (h2 : scanE s (p + kAt s p) = some x) : keyL s p acc = keyL s x.2 (acc ++ [x.1]) := by
  rw [keyL, dif_pos h, if_pos h1]
  split
  · rename_i hE; rw [hE] at h2; cases h2
  · rename_i y hE; rw [hE] at h2; injection h2 with h2; subst h2; rfl
theorem keyL_bad {s : ByteArray} {p : Nat} {acc : List Nat} (h : p < s.size) (h1 : rAt s p = 92) (h2 : scanE s (p + kAt s p) = none) : keyL s p acc = .error (badEsc s (p + kAt s p)) := by
  rw [keyL, dif_pos h, if_pos h1]
  split
  · rfl
  · rename_i y hE; rw [hE] at h2; cases h2
theorem valL_eof {s : ByteArray} {p : Nat} {acc : List Nat} (h : ¬ p < s.size) : valL s p acc = .ok (acc, p, true) := by rw [valL, dif_neg h]
theorem valL_end {s : ByteArray} {p : Nat} {acc : List Nat} (h : p < s.size) (h1 : ¬ rAt s p = 92) (h2 : eolR (rAt s p) = true) : valL s p acc = .ok (acc, p + kAt s p, false) := by rw [valL, dif_pos h, if_neg h1, if_pos h2]
theorem valL_chr {s : ByteArray} {p : Nat} {acc : List Nat} (h : p < s.size) (h1 : ¬ rAt s p = 92) (h2 : eolR (rAt s p) = false) : valL s p acc = valL s (p + kAt s p) (acc ++ [rAt s p]) := by rw [valL, dif_pos h, if_neg h1, if_neg (by rw [h2]; decide)]
theorem valL_on {s : ByteArray} {p : Nat} {acc : List Nat} (h : p < s.size) (h1 : rAt s p = 92) (h2 : p + kAt s p < s.size) (h3 : eolR (rAt s (p + kAt s p)) = true) : valL s p acc = valL s (skipW s (p + kAt s p + kAt s (p + kAt s p))) acc := by rw [valL, dif_pos h, if_pos h1, dif_pos ⟨h2, h3⟩]
theorem valL_esc {s : ByteArray} {p : Nat} {acc : List Nat} (h : p < s.size) (h1 : rAt s p = 92) (h0 : ¬ (p + kAt s p < s.size ∧ eolR (rAt s (p + kAt s p)) = true)) (x : Nat × Nat) (h2 : scanE s (p + kAt s p) = some x) : valL s p acc = valL s x.2 (acc ++ [x.1]) := by
  rw [valL, dif_pos h, if_pos h1, dif_neg h0]
  split
  · rename_i hE; rw [hE] at h2; cases h2
  · rename_i y hE; rw [hE] at h2; injection h2 with h2; subst h2; rfl
theorem valL_bad {s : ByteArray} {p : Nat} {acc : List Nat} (h : p < s.size) (h1 : rAt s p = 92) (h0 : ¬ (p + kAt s p < s.size ∧ eolR (rAt s (p + kAt s p)) = true)) (h2 : scanE s (p + kAt s p) = none) : valL s p acc = .error (badEsc s (p + kAt s p)) := by
  rw [valL, dif_pos h, if_pos h1, dif_neg h0]
  split
  · rfl
  · rename_i y hE; rw [hE] at h2; cases h2
end Go.Proofs.YtgmhigjhooihdaaDoor


set_option linter.unusedVariables false
namespace Go.Proofs.YtgmhigjhooihdaaDoor
open Go.RowKit Plain

end Go.Proofs.YtgmhigjhooihdaaDoor


set_option linter.unusedVariables false
namespace Go.Proofs.YtgmhigjhooihdaaDoor
open Go.RowKit Plain

theorem lexS_len (s : ByteArray) (nx : NX) (p : Nat) : (lexS s nx p).1.length ≤ 2 := by
  unfold lexS
  cases nx with
  | before => dsimp only; (repeat' split) <;> simp
  | comment => dsimp only; split <;> simp
  | key => dsimp only; split <;> (try simp) <;> (repeat' split) <;> simp
  | bval => simp
  | val => dsimp only; split <;> (try simp) <;> (repeat' split) <;> simp
end Go.Proofs.YtgmhigjhooihdaaDoor


set_option linter.unusedVariables false
namespace Go.Proofs.YtgmhigjhooihdaaDoor
open Go.RowKit Plain

end Go.Proofs.YtgmhigjhooihdaaDoor


set_option linter.unusedVariables false
namespace Go.Proofs.YtgmhigjhooihdaaDoor
open Go.RowKit Plain

/-- three cells of an item at an address -/
def ItemAt (g o : Nat) (x : LI) (w : World) : Prop := w.cell? ⟨g, o, none⟩ = some (.int .i64 (x.kind : Int)) ∧ w.cell? ⟨g, o + 1, none⟩ = some (.int .i64 (x.pos : Int)) ∧ w.cell? ⟨g, o + 2, none⟩ = some (.string x.text)
def itemV (x : LI) : Value := .agg #[.int .i64 (x.kind : Int), .int .i64 (x.pos : Int), .string x.text]
end Go.Proofs.YtgmhigjhooihdaaDoor


set_option linter.unusedVariables false
namespace Go.Proofs.YtgmhigjhooihdaaDoor
open Go.RowKit Plain

/-- a panic with a new error -/
def PanErr (w : World) (e : Ending) (w' : World) : Prop := ∃ N : Nat, e = .panicked [{ v := .iface 90 (.pointer (some ⟨N, 0, none⟩)), recovered := false }] ∧ Below w.heap.size w w'
/-- a row of kinds -/
def KindsAt (E : Nat) (es : List Nat) (w : World) : Prop := ∀ (i k : Nat), es[i]? = some k → w.cell? ⟨E, i, none⟩ = some (.int .i64 (k : Int))
def EBad (lb : Nat) (w : World) (e : Ending) (w' : World) : Prop := ∃ N : Nat, e = .panicked [{ v := .iface 90 (.pointer (some ⟨N, 0, none⟩)), recovered := false }] ∧ KeepB lb w w' ∧ (∀ B, B ≤ lb → B ≤ w.heap.size → Below B w w')
end Go.Proofs.YtgmhigjhooihdaaDoor


set_option linter.unusedVariables false
namespace Go.Proofs.YtgmhigjhooihdaaDoor
open Go.RowKit Plain Go.Maps

/-- an element as it stands -/
def rawR (v : Value) : Option (DataW Value × List MemPlace) := some (.held v, [])
abbrev MpC (w : World) (mc n : Nat) (DC : DataW Value) : Prop := w.ownsMap Tryd.prog 9 rawR mc n DC
theorem mpc_keep {w w' : World} {mb n : Nat} {D : DataW Value} (h : MpC w mb n D) (e : w'.heap[mb]? = w.heap[mb]?) : MpC w' mb n D := by
  obtain ⟨es, clock, hb, r⟩ := h
  exact ⟨es, clock, e.trans hb, r⟩
theorem mpc_is {w : World} {mb n : Nat} {D : DataW Value} (h : MpC w mb n D) : ∃ es c, w.heap[mb]? = some (.map es c) := by
  obtain ⟨es, clock, hb, r⟩ := h
  exact ⟨es, clock, hb⟩
theorem map_lt {w : World} {k : Nat} (h : ∃ es c, w.heap[k]? = some (.map es c)) : k < w.heap.size := by
  obtain ⟨es, c, h⟩ := h
  exact (Array.getElem?_eq_some_iff.1 h).1
/-- properties at 'pb' -/
structure PQ (B pb mb mc n nc : Nat) (p : PSt) (DC : DataW Value) (lv : Value) (w : World) : Prop where
  blk : w.heap[pb]? = some (.cells #[.string ⟨#[36, 123]⟩, .string ⟨#[125]⟩, .bool false, .map (some mb), .map (some mc), lv, .string ⟨#[]⟩] 37 (0, 0))
  mp : MpS w mb n p.D
  cp : MpC w mc nc DC
  row : w.ownsRow B 9 1 lv p.ks.length (p.ks.map Value.string)
  lo : B ≤ pb ∧ B ≤ mb ∧ B ≤ mc ∧ mb ≠ mc
/-- what the comments' map holds -/
def CRel (B : Nat) (DC : DataW Value) (cf : ByteArray → Option (List ByteArray)) (lv cmv : Value) (w : World) : Prop :=
  ∀ k : ByteArray, (cf k = none → Maps.has DC (keyL8 k) = false) ∧ (∀ l, cf k = some l → ∃ v, Maps.has DC (keyL8 k) = true ∧ DC.atKey (keyL8 k) (.held (.slice none 0 0)) = .held v ∧ w.ownsRow B 9 1 v l.length (l.map Value.string) ∧ ∀ g, v.ownBlock = some g → lv.ownBlock ≠ some g ∧ cmv.ownBlock ≠ some g)
theorem row_cells {w : World} {base sz : Nat} {e : TypeId} {v : Value} {n : Nat} {xs : List Value} (h : w.ownsRow base e sz v n xs) {g : Nat} (hg : v.ownBlock = some g) : ∃ cs, w.heap[g]? = some (.cells cs e (0, 0)) := by
  rcases h.2 with ⟨hv, _⟩ | ⟨g', cap, cur, hv, h1, h2, h3⟩
  · rw [hv] at hg; cases hg
  · rw [hv] at hg
    obtain rfl : g' = g := Option.some.inj hg
    exact ⟨_, h2⟩
/-- the world goes on: what is neither the keys' row nor the row of comments is kept -/
theorem CRel.keep {B : Nat} {DC : DataW Value} {cf : ByteArray → Option (List ByteArray)} {lv cmv lv' cmv' : Value} {w w' : World} (h : CRel B DC cf lv cmv w)
    (hk : ∀ (g : Nat) (cs : Array Value), w.heap[g]? = some (.cells cs 9 (0, 0)) → lv.ownBlock ≠ some g → cmv.ownBlock ≠ some g → w'.heap[g]? = w.heap[g]?)
    (h1 : lv'.ownBlock = lv.ownBlock ∨ ∀ g, lv'.ownBlock = some g → w.heap.size ≤ g) (h2 : cmv'.ownBlock = cmv.ownBlock ∨ ∀ g, cmv'.ownBlock = some g → w.heap.size ≤ g) : CRel B DC cf lv' cmv' w' := by
  intro k
  obtain ⟨ha, hb⟩ := h k
  refine ⟨ha, fun l hl => ?_⟩
  obtain ⟨v, v1, v2, v3, v4⟩ := hb l hl
  refine ⟨v, v1, v2, row_keep v3 (fun g hg => ?_), fun g hg => ?_⟩
  · obtain ⟨cs, hcs⟩ := row_cells v3 hg
    exact hk g cs hcs (v4 g hg).1 (v4 g hg).2
  · have hlt := (row_lt v3 hg).2
    constructor
    · rcases h1 with h1 | h1
      · rw [h1]; exact (v4 g hg).1
      · intro e; have := h1 g e; omega
    · rcases h2 with h2 | h2
      · rw [h2]; exact (v4 g hg).2
      · intro e; have := h2 g e; omega
theorem CRel.zero (B : Nat) (lv cmv : Value) (w : World) : CRel B (.map []) (fun _ => none) lv cmv w := by
  intro k
  exact ⟨fun _ => rfl, fun l hl => by cases hl⟩
theorem keyL8_inj {a b : ByteArray} (h : keyL8 a = keyL8 b) : a = b := by
  unfold keyL8 at h
  injection h with h
  exact ByteArray.ext (Array.toList_inj.1 h)
/-- comments are stored at a key; the row of comments is another one then -/
theorem CRel.store {B nc : Nat} {DC : DataW Value} {cf : ByteArray → Option (List ByteArray)} {lv cmv cmv' : Value} {w w' : World} {k : ByteArray} {cm : List ByteArray} {mc : Nat} (h : CRel B DC cf lv cmv w) (hm : MpC w mc nc DC)
    (hrow : w.ownsRow B 9 1 cmv cm.length (cm.map Value.string)) (hne : ∀ g, cmv.ownBlock = some g → lv.ownBlock ≠ some g)
    (hk : ∀ (g : Nat) (cs : Array Value), w.heap[g]? = some (.cells cs 9 (0, 0)) → w'.heap[g]? = w.heap[g]?) (h2 : ∀ g, cmv'.ownBlock = some g → w.heap.size ≤ g) : CRel B (DC.put (keyL8 k) (.held cmv)) (updC cf k cm) lv cmv' w' := by
  have hIM : IsMap DC := by obtain ⟨es, clock, _, _, _, hD⟩ := hm; exact ⟨_, hD⟩
  intro x
  unfold updC
  by_cases hx : x = k
  · subst hx
    rw [if_pos rfl]
    refine ⟨fun e => (by cases e), fun l hl => ?_⟩
    injection hl with hl
    subst hl
    refine ⟨cmv, ?_, ?_, row_keep hrow (fun g hg => ?_), fun g hg => ⟨hne g hg, fun e => ?_⟩⟩
    · exact has_put_same (k := keyL8 x) hIM (by unfold keyL8; trivial) _
    · exact atKey_put_same (k := keyL8 x) hIM (by unfold keyL8; trivial) _ _
    · obtain ⟨cs, hcs⟩ := row_cells hrow hg
      exact hk g cs hcs
    · have := h2 g e; have := (row_lt hrow hg).2; omega
  · rw [if_neg hx]
    obtain ⟨ha, hb⟩ := h x
    refine ⟨fun e => ?_, fun l hl => ?_⟩
    · rw [has_put_other (fun e => hx (keyL8_inj e))]; exact ha e
    · obtain ⟨v, v1, v2, v3, v4⟩ := hb l hl
      refine ⟨v, ?_, ?_, row_keep v3 (fun g hg => ?_), fun g hg => ⟨(v4 g hg).1, fun e => ?_⟩⟩
      · rw [has_put_other (fun e => hx (keyL8_inj e))]; exact v1
      · rw [atKey_put_other (fun e => hx (keyL8_inj e))]; exact v2
      · obtain ⟨cs, hcs⟩ := row_cells v3 hg
        exact hk g cs hcs
      · have := h2 g e; have := (row_lt v3 hg).2; omega
def NewPQ (w : World) (e : Ending) (w' : World) : Prop := ∃ pb mb mc lv, e = .returned (.pointer (some ⟨pb, 0, none⟩)) ∧ PQ w.heap.size pb mb mc 0 0 pst0 (.map []) lv w' ∧ Below w.heap.size w w'
set_option maxRecDepth 100000 in
theorem newPQ_any (w : World) : Calls Tryd.prog 15 #[] w (NewPQ w) := by
  have hmm := @run_makeMap Tryd.prog
  unfold NewPQ
  go_enter Tryd.func15, Tryd.ntmps15
  go_wp2
  go_ret
  refine ⟨w.heap.size + 1 + 1 + 1, w.heap.size, w.heap.size + 1, .slice (some ⟨w.heap.size + 1 + 1, 0, none⟩) 0 0, rfl, ⟨?_, ?_, ?_, ?_, by omega, by omega, by omega, by omega⟩, ?_⟩
  · have := heap_alloc_new (((w.alloc (.map #[] 0)).alloc (.map #[] 0)).alloc (.cells #[] 9)) (.cells #[.string ⟨#[36, 123]⟩, .string ⟨#[125]⟩, .bool false, .map (some w.heap.size), .map (some (w.heap.size + 1)), .slice (some ⟨w.heap.size + 1 + 1, 0, none⟩) 0 0, .string ⟨#[]⟩] 37)
    simpa using this
  · refine mp_keep (World.ownsMap_made (H := Unit) w Tryd.prog 9 (plainElem Tryd.prog 9)) ?_
    rw [Below.heap_alloc _ _ _ (by simp; omega), Below.heap_alloc _ _ _ (by simp; omega), Below.heap_alloc _ _ _ (by simp)]
  · refine mpc_keep (w := (w.alloc (.map #[] 0)).alloc (.map #[] 0)) (by
      have := World.ownsMap_made (H := Value) (w.alloc (.map #[] 0)) Tryd.prog 9 rawR
      rw [show (w.alloc (.map #[] 0)).heap.size = w.heap.size + 1 by simp] at this
      exact this) ?_
    rw [Below.heap_alloc _ _ _ (by simp), Below.heap_alloc _ _ _ (by simp)]
  · refine ⟨rfl, .inr ⟨w.heap.size + 1 + 1, 0, #[], rfl, by omega, ?_, Nat.le_refl _, by unfold maxLen; omega, rfl, rfl⟩⟩
    rw [Below.heap_alloc _ _ _ (by simp)]
    have := heap_alloc_new ((w.alloc (.map #[] 0)).alloc (.map #[] 0)) (.cells #[] 9)
    simpa using this
  · exact ((((Below.refl _ w).alloc (Nat.le_refl _) _).alloc (by simp) _).alloc (by simp; omega) _).alloc (by simp; omega) _
end Go.Proofs.YtgmhigjhooihdaaDoor


set_option linter.unusedVariables false
namespace Go.Proofs.YtgmhigjhooihdaaDoor
open Go.RowKit Plain

theorem assert_err (v : Value) (xT : TypeId) (w : World) : (Instr.typeAssert (.iface 90 v) xT 43 false).run Tryd.prog w = .ok (.iface 90 v) w := by
  have h : (Tryd.prog.info? 90).map (fun i => (lacking #[("Error", 48)] i.methods).isEmpty) = some true := by kernel_rfl
  obtain ⟨i, hi, hl⟩ := Option.map_eq_some_iff.1 h
  simp [Instr.typeAssert, run_underlying Tryd.underlying43, typeInfo, hi, missingMethod_none (List.isEmpty_iff.1 hl)]
end Go.Proofs.YtgmhigjhooihdaaDoor


set_option linter.unusedVariables false
namespace Go.Proofs.YtgmhigjhooihdaaDoor
open Go.RowKit Plain Go.Maps

theorem ne_ty {w : World} {k k' : Nat} {c c' : Array Value} {u u' : TypeId} (h1 : w.heap[k]? = some (.cells c u (0, 0))) (h2 : w.heap[k']? = some (.cells c' u' (0, 0))) (h : u ≠ u') : k ≠ k' := by
  intro e
  subst e
  rw [h1] at h2
  injection h2 with h2
  injection h2 with _ h2
  exact h h2
theorem ne_map {w : World} {k k' : Nat} {c : Array Value} {u : TypeId} (h1 : ∃ es cl, w.heap[k]? = some (.map es cl)) (h2 : w.heap[k']? = some (.cells c u (0, 0))) : k ≠ k' := by
  intro e
  subst e
  obtain ⟨es, cl, h1⟩ := h1
  rw [h1] at h2
  cases h2
theorem ItemAt.keep {g o : Nat} {x : LI} {w w' : World} (h : ItemAt g o x w) (e : w'.heap[g]? = w.heap[g]?) : ItemAt g o x w' := by
  obtain ⟨h1, h2, h3⟩ := h
  refine ⟨?_, ?_, ?_⟩
  · unfold World.cell? at h1 ⊢; rw [e]; exact h1
  · unfold World.cell? at h2 ⊢; rw [e]; exact h2
  · unfold World.cell? at h3 ⊢; rw [e]; exact h3
end Go.Proofs.YtgmhigjhooihdaaDoor


set_option linter.unusedVariables false
namespace Go.Proofs.YtgmhigjhooihdaaDoor
open Go.RowKit Plain Go.Maps

theorem textOf_size (l : List Nat) : (textOf l).size ≤ 4 * l.length := by
  have h : ∀ l : List Nat, ((l.map fun (n : Nat) => Lib.encodeRune (n : Int)).flatten).length ≤ 4 * l.length := by
    intro l
    induction l with
    | nil => simp
    | cons a l ih =>
      have := encode_len (a : Int)
      simp only [List.map_cons, List.flatten_cons, List.length_append, List.length_cons]
      omega
  rw [Lib.size_eq]
  unfold textOf
  rw [List.toList_toArray]
  exact h l
theorem keyL_len (s : ByteArray) (p : Nat) (acc : List Nat) : ∀ x, keyL s p acc = .ok x → x.1.length + p ≤ acc.length + x.2.1 := by
  fun_induction keyL s p acc with
  | case1 p acc h h1 hE => intro x hx; cases hx
  | case2 p acc h h1 y hE ih =>
    intro x hx
    have := scanE_gt s _ _ hE
    have := ih x hx
    have := kAt_pos s p h
    simp at *
    omega
  | case3 p acc h h1 h2 => intro x hx; injection hx with hx; subst hx; exact Nat.le_refl _
  | case4 p acc h h1 h2 ih =>
    intro x hx
    have hk := kAt_pos s p h
    have := ih x hx
    simp at *
    omega
  | case5 p acc h => intro x hx; injection hx with hx; subst hx; exact Nat.le_refl _
theorem valL_len (s : ByteArray) (p : Nat) (acc : List Nat) : ∀ x, valL s p acc = .ok x → x.1.length + p ≤ acc.length + x.2.1 := by
  fun_induction valL s p acc with
  | case1 p acc h h1 h2 ih =>
    intro x hx
    have hk := kAt_pos s p h
    have hk2 := kAt_pos s _ h2.1
    have hw := skipW_ge s (p + kAt s p + kAt s (p + kAt s p))
    have := ih x hx
    omega
  | case2 p acc h h1 h2 hE => intro x hx; cases hx
  | case3 p acc h h1 h2 y hE ih =>
    intro x hx
    have := scanE_gt s _ _ hE
    have := ih x hx
    have := kAt_pos s p h
    simp at *
    omega
  | case4 p acc h h1 h2 => intro x hx; injection hx with hx; subst hx; show acc.length + p ≤ acc.length + (p + kAt s p); omega
  | case5 p acc h h1 h2 ih =>
    intro x hx
    have hk := kAt_pos s p h
    have := ih x hx
    simp at *
    omega
  | case6 p acc h => intro x hx; injection hx with hx; subst hx; exact Nat.le_refl _
theorem comL_len (s : ByteArray) (p : Nat) (acc : List Nat) : (comL s p acc).1.length + p ≤ acc.length + (comL s p acc).2.1 := by
  fun_induction comL s p acc with
  | case1 p acc h h1 => show acc.length + p ≤ acc.length + (p + kAt s p); omega
  | case2 p acc h h1 ih =>
    have hk := kAt_pos s p h
    simp at *
    omega
  | case3 p acc h => exact Nat.le_refl _
theorem badEsc_size (s : ByteArray) (p : Nat) : (badEsc s p).size ≤ 100 := by
  unfold badEsc
  split <;> decide
theorem keyL_err (s : ByteArray) (p : Nat) (acc : List Nat) : ∀ e, keyL s p acc = .error e → e.size ≤ 100 := by
  fun_induction keyL s p acc with
  | case1 p acc h h1 hE => intro e he; injection he with he; subst he; exact badEsc_size _ _
  | case2 p acc h h1 y hE ih => exact ih
  | case3 p acc h h1 h2 => intro e he; cases he
  | case4 p acc h h1 h2 ih => exact ih
  | case5 p acc h => intro e he; cases he
theorem valL_err (s : ByteArray) (p : Nat) (acc : List Nat) : ∀ e, valL s p acc = .error e → e.size ≤ 100 := by
  fun_induction valL s p acc with
  | case1 p acc h h1 h2 ih => exact ih
  | case2 p acc h h1 h2 hE => intro e he; injection he with he; subst he; exact badEsc_size _ _
  | case3 p acc h h1 h2 y hE ih => exact ih
  | case4 p acc h h1 h2 => intro e he; cases he
  | case5 p acc h h1 h2 ih => exact ih
  | case6 p acc h => intro e he; cases he
theorem lexS_text (s : ByteArray) (nx : NX) (p : Nat) (hp : p ≤ s.size) : ∀ x ∈ (lexS s nx p).1, x.text.size ≤ 4 * s.size + 100 := by
  intro x hx
  unfold lexS at hx
  cases nx with
  | before =>
    dsimp only at hx
    (repeat' split at hx) <;> simp at hx
    subst hx
    show (0 : Nat) ≤ _
    omega
  | comment =>
    dsimp only at hx
    have h1 := comL_len s (skipW s p) []
    have h2 := comL_bd s (skipW s p) [] (skipW_le s p hp)
    split at hx
    · rename_i acc q hc
      rw [hc] at h1 h2
      simp at hx h1
      subst hx
      have := textOf_size acc
      show (textOf acc).size ≤ _
      have := h2.2.1
      simp at this
      omega
    · rename_i acc q hc
      rw [hc] at h1 h2
      simp at hx h1
      subst hx
      have := textOf_size acc
      show (textOf acc).size ≤ _
      have := h2.2.1
      simp at this
      omega
  | key =>
    dsimp only at hx
    split at hx
    · rename_i e he
      simp at hx
      subst hx
      have := keyL_err s p [] e he
      show e.size ≤ _
      omega
    · rename_i acc q b hk
      have h1 := keyL_len s p [] _ hk
      have h2 := keyL_bd s p [] hp _ hk
      have h3 := textOf_size acc
      simp at h1 h2
      rcases List.mem_append.1 hx with hx | hx
      · split at hx
        · cases hx
        · simp at hx
          subst hx
          show (textOf acc).size ≤ _
          omega
      · split at hx
        · simp at hx
          subst hx
          show (0 : Nat) ≤ _
          omega
        · cases hx
  | bval => simp at hx
  | val =>
    dsimp only at hx
    split at hx
    · rename_i e he
      simp at hx
      subst hx
      have := valL_err s p [] e he
      show e.size ≤ _
      omega
    · rename_i acc q b hk
      have h1 := valL_len s p [] _ hk
      have h2 := valL_bd s p [] hp _ hk
      have h3 := textOf_size acc
      simp at h1 h2
      rcases List.mem_append.1 hx with hx | hx
      · simp at hx
        subst hx
        show (textOf acc).size ≤ _
        omega
      · split at hx
        · simp at hx
          subst hx
          show (0 : Nat) ≤ _
          omega
        · cases hx
theorem lexN_text (s : ByteArray) : ∀ (f : Nat) (nx : NX) (p : Nat), p ≤ s.size → ∀ x ∈ lexN s f nx p, x.text.size ≤ 4 * s.size + 100 := by
  intro f
  induction f with
  | zero => intro nx p hp x hx; cases hx
  | succ f ih =>
    intro nx p hp x hx
    unfold lexN at hx
    rcases List.mem_append.1 hx with hx | hx
    · exact lexS_text s nx p hp x hx
    · have hm := lexS_mu s nx p hp
      cases hr : (lexS s nx p).2 with
      | none => rw [hr] at hx; cases hx
      | some y =>
        rw [hr] at hx
        exact ih y.1 y.2 (hm y hr).2.1 x hx
theorem lexL_text (s : ByteArray) : ∀ x ∈ lexL s, x.text.size ≤ 4 * s.size + 100 := lexN_text s _ _ 0 (Nat.zero_le _)
theorem lexN_len (s : ByteArray) : ∀ (f : Nat) (nx : NX) (p : Nat), (lexN s f nx p).length ≤ 2 * f := by
  intro f
  induction f with
  | zero => intro nx p; simp [lexN]
  | succ f ih =>
    intro nx p
    unfold lexN
    have h1 := lexS_len s nx p
    cases hr : (lexS s nx p).2 with
    | none => simp; omega
    | some y =>
      have := ih y.1 y.2
      simp
      omega
theorem itemsC_at (l : List LI) : ∀ (i : Nat) (x : LI), l[i]? = some x → (itemsC l)[3 * i]? = some (.int .i64 (x.kind : Int)) ∧ (itemsC l)[3 * i + 1]? = some (.int .i64 (x.pos : Int)) ∧ (itemsC l)[3 * i + 2]? = some (.string x.text) := by
  induction l with
  | nil => intro i x hx; simp at hx
  | cons a l ih =>
    intro i x hx
    have e : itemsC (a :: l) = itemC a ++ itemsC l := by simp [itemsC]
    rw [e]
    cases i with
    | zero =>
      simp at hx
      subst hx
      exact ⟨rfl, rfl, rfl⟩
    | succ i =>
      have := ih i x (by simpa using hx)
      have hl : (itemC a).length = 3 := rfl
      refine ⟨?_, ?_, ?_⟩
      · rw [List.getElem?_append_right (by rw [hl]; omega), hl, show 3 * (i + 1) - 3 = 3 * i by omega]; exact this.1
      · rw [List.getElem?_append_right (by rw [hl]; omega), hl, show 3 * (i + 1) + 1 - 3 = 3 * i + 1 by omega]; exact this.2.1
      · rw [List.getElem?_append_right (by rw [hl]; omega), hl, show 3 * (i + 1) + 2 - 3 = 3 * i + 2 by omega]; exact this.2.2
theorem row_base {w : World} {base base' sz : Nat} {e : TypeId} {v : Value} {n : Nat} {xs : List Value} (h : w.ownsRow base e sz v n xs) (hb : base' ≤ base) : w.ownsRow base' e sz v n xs := by
  refine ⟨h.1, ?_⟩
  rcases h.2 with hn | ⟨g, cap, cur, hv, h1, h2⟩
  · exact .inl hn
  · exact .inr ⟨g, cap, cur, hv, Nat.le_trans hb h1, h2⟩
theorem PQ.base {B B' pb mb mc n nc : Nat} {p : PSt} {DC : DataW Value} {lv : Value} {w : World} (h : PQ B pb mb mc n nc p DC lv w) (hb : B' ≤ B) : PQ B' pb mb mc n nc p DC lv w :=
  ⟨h.blk, h.mp, h.cp, row_base h.row hb, Nat.le_trans hb h.lo.1, Nat.le_trans hb h.lo.2.1, Nat.le_trans hb h.lo.2.2.1, h.lo.2.2.2⟩
theorem PQ.below {B pb mb mc n nc : Nat} {p : PSt} {DC : DataW Value} {lv : Value} {w w' : World} (h : PQ B pb mb mc n nc p DC lv w) (hb : Below w.heap.size w w') : PQ B pb mb mc n nc p DC lv w' :=
  ⟨(hb.block _ (lx_lt h.blk)).trans h.blk, mp_keep h.mp (hb.block _ (map_lt (mp_is h.mp))), mpc_keep h.cp (hb.block _ (map_lt (mpc_is h.cp))), row_keep h.row (fun g hg => hb.block g (row_lt h.row hg).2), h.lo⟩
end Go.Proofs.YtgmhigjhooihdaaDoor


set_option linter.unusedVariables false
namespace Go.Proofs.YtgmhigjhooihdaaDoor
open Go.RowKit Plain Go.Maps

theorem row_sl {w : World} {B n : Nat} {v : Value} {xs : List Value} (h : w.ownsRow B 9 1 v (n + 1) xs) : ∃ G cap, v = .slice (some ⟨G, 0, none⟩) (n + 1) cap := by
  rcases h.2 with ⟨_, h0⟩ | ⟨g, cap, cur, hv, _⟩
  · omega
  · exact ⟨g, cap, hv⟩
theorem pq_cells {B pb mb mc n nc : Nat} {p : PSt} {DC : DataW Value} {lv : Value} {w : World} (h : PQ B pb mb mc n nc p DC lv w) : w.cell? ⟨pb, 3, none⟩ = some (.map (some mb)) ∧ w.cell? ⟨pb, 4, none⟩ = some (.map (some mc)) ∧ w.cell? ⟨pb, 5, none⟩ = some lv ∧ w.frozen? ⟨pb, 5, none⟩ = false := by
  have hb := h.blk
  simp [World.cell?, World.frozen?, hb]
theorem wfI_next {x : LI} {r : List LI} (h : WfI (x :: r)) (hk : 2 ≤ x.kind) : r ≠ [] ∧ WfI r := by
  cases r with
  | nil =>
    have h9 : x.kind < 2 := h
    omega
  | cons y r => exact ⟨List.cons_ne_nil _ _, h.2.2⟩
end Go.Proofs.YtgmhigjhooihdaaDoor

