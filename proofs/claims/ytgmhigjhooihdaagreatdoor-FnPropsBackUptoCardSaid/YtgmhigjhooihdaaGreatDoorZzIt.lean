/- ZzItems: the lexer's items as a row of one's own. -/
import Derived.Test.YtgmhigjhooihdaaGreatDoorLexMem
import Derived.Lib.TrimAscii
import Derived.Lib.AtoiErrMem
import Derived.Laws.CopyOwn
import Derived.OwnWalk
import Derived.Maps.RangeWalk
import Derived.Maps.Ext
import Derived.LoopTactic
import Derived.Laws.AppendOwnNone
import Derived.Deep.RegionHeld3
import Derived.Deep.AppendLies
import Derived.Deep.DrawnRows
import Derived.Test.YtgmhigjhooihdaaGreatDoorProg
import Derived.WalkKit
import Derived.Ground.NamesProg
import Derived.Shelf.Lay
import Derived.Shelf.Bytes.SlSmallAll
import Derived.Deep.RegionLaw
import Derived.ScopeJumps
import Derived.WalkMore
import Derived.StillTailTactics
import Derived.Laws.BytesArg
import Derived.Lib.ConvBytes
set_option linter.unusedVariables false
namespace Go.Proofs.YtgmhigjhooihdaaGreatDoor
open Go.RowKit Plain Go.Maps

theorem infoZz : (Tryz.prog.info? 137).map (fun i => (i.zero, i.size, i.bytes)) = some (some (.agg #[.int .i64 0, .int .i64 0, .string ⟨#[]⟩]), 3, 32) := by kernel_rfl
def ZzPost (s : ByteArray) (w : World) (e : Ending) (w' : World) : Prop := ∃ v, e = .returned v ∧ w'.ownsRow w.heap.size 137 3 v (lexL s).length (itemsC (lexL s)) ∧ Below w.heap.size w w'
set_option maxHeartbeats 8000000 in
set_option maxRecDepth 100000 in
theorem zzItems_any (s : ByteArray) (w : World) (hs : s.size ≤ 100000) (hT : Tabs w) : Calls Tryz.prog 77 #[.string s] w (ZzPost s w) := by
  unfold ZzPost
  obtain ⟨i0, hi, hz0, hz1, hz2⟩ := info_parts infoZz
  have HLX := Lib.hid (lex_any s w hs hT)
  have hne : lexL s ≠ [] := fun e => by
    have := wfI_lexL s
    rw [e] at this
    exact this
  have hlen := lexN_len s (4 * s.size + 4) .before 0
  have hlen2 : (lexL s).length ≤ 10000000 := by unfold lexL; omega
  obtain ⟨L, hL⟩ : ∃ L, lexL s = L := ⟨_, rfl⟩
  obtain ⟨nL, hnL⟩ : ∃ nL, L.length = nL := ⟨_, rfl⟩
  have HLL := Lib.hid hL
  have HNL := Lib.hid hnL
  rw [hL] at hne hlen2
  rw [hnL] at hlen2
  clear hL hlen hT hnL
  go_enter Tryz.func77, Tryz.ntmps77
  go_wp2_with (go_at_call 94; (with_reducible refine HLX.out.mono ?_); rintro e w1 ⟨lb, q0, st0, rs0, rfl, hy, hb1⟩; rw [HLL.out] at hy; obtain ⟨g, st, pos, start, wd, lp, rv, o, c, cs, hlb, hc1, hc2, hat, hgb⟩ := hy.it hne; rw [HNL.out] at hlb; have hc7 : w1.cell? ⟨lb, 7, none⟩ = some (.slice (some ⟨g, o, none⟩) nL c) := (by unfold lxC at hlb; simp [World.cell?, hlb]); have HB1 := Lib.hid hb1; have HAT := Lib.hid hat; have HGB := Lib.hid hgb; clear hlb hy hc1 hc2 hat hgb hb1; dsimp only)
  clear hc7 HLX
  go_loopg [3, 12] nL (fun g' v3 v12 wr => ∃ i : Nat, v12 = .int .i64 (i : Int) ∧ i ≤ nL ∧ g' = nL - i ∧ Hid (wr.ownsRow w1.heap.size 137 3 v3 i (itemsC (L.take i))) ∧ Hid (Below w1.heap.size w1 wr))
  case atStart => exact ⟨0, rfl, Nat.zero_le _, rfl, Lib.hid ⟨by simp [itemsC], .inl ⟨rfl, rfl⟩⟩, Lib.hid (Below.refl _ _)⟩
  case round =>
    obtain ⟨i, rfl, hin, rfl, HR, HB⟩ := hrel
    by_cases hlt : i < nL
    · have hiz : (i : Int) < (nL : Int) := by omega
      obtain ⟨x, hx⟩ : ∃ x, L[i]? = some x := ⟨_, List.getElem?_eq_getElem (by have := HNL.out; omega)⟩
      obtain ⟨x0, x1, x2⟩ := (HAT.out i x hx).keep (HB.out.block g (lx_lt HGB.out))
      obtain ⟨K, hK⟩ : ∃ K : Int, (x.kind : Int) = K := ⟨_, rfl⟩
      obtain ⟨P, hP⟩ : ∃ P : Int, (x.pos : Int) = P := ⟨_, rfl⟩
      obtain ⟨T, hTx⟩ : ∃ T, x.text = T := ⟨_, rfl⟩
      have HC : Hid (itemC x = [.int .i64 K, .int .i64 P, .string T]) := Lib.hid (by unfold itemC; rw [hK, hP, hTx])
      rw [hK] at x0
      rw [hP] at x1
      rw [hTx] at x2
      rw [Nat.mul_comm 3 i] at x0 x1 x2
      have HX := Lib.hid hx
      clear hx hK hP hTx
      have HXC : Hid (itemsC (L.take (i + 1)) = itemsC (L.take i) ++ [.int .i64 K, .int .i64 P, .string T]) := Lib.hid (by rw [List.take_add_one, HX.out, ← HC.out]; simp [itemsC])
      have HBs := HB.out.size
      go_wp2_with (at_builtin; refine wpList_append_own_at _ rfl _ _ 134 rfl w1.heap.size 137 i0 (.agg #[.int .i64 0, .int .i64 0, .string ⟨#[]⟩]) 3 32 Tryz.underlying134 hi hz0 hz1 hz2 rfl (by decide) u3 i (itemsC (L.take i)) rfl ((HR.out.alloc _).alloc _) ⟨wr.heap.size + 1, 0, none⟩ 1 1 [.int .i64 K, .int .i64 P, .string T] rfl rfl (by have := cell_three_new (wr.alloc (.cells #[.int .i64 K, .int .i64 P, .string T] 169)) (.int .i64 K) (.int .i64 P) (.string T) 137; simpa using this) (by intro u hu; simp at hu; rcases hu with rfl | rfl | rfl <;> rfl) (by unfold maxLen; omega) (by omega) (by simp; omega) ?_; intro v' w6 hown6 hgr6 _ hsh6; have HO6 := Lib.hid hown6; have HG6 := Lib.hid hgr6; clear hown6 hgr6 hsh6)
      have HR2 : Hid (w6.ownsRow w1.heap.size 137 3 v' (i + 1) (itemsC (L.take (i + 1)))) := Lib.hid (by rw [HXC.out]; exact HO6.out)
      have HB2 : Hid (Below w1.heap.size w1 w6) := Lib.hid (((HB.out.alloc HB.out.size _).alloc (by simp; omega) _).grown HG6.out (by simp; omega) (fun g hg => (row_lt HR.out hg).1))
      go_roundg (nL - (i + 1))
      case measure => omega
      case rel => exact ⟨i + 1, by go_num, by omega, rfl, HR2, HB2⟩
    · have hiz : ¬ (i : Int) < (nL : Int) := by omega
      obtain rfl : i = nL := by omega
      have HEND : Hid (wr.ownsRow w1.heap.size 137 3 u3 (lexL s).length (itemsC (lexL s))) := Lib.hid (by
        have h := HR.out
        rw [List.take_of_length_le (Nat.le_of_eq HNL.out)] at h
        rw [HLL.out, HNL.out]
        exact h)
      have HBE : Hid (Below w.heap.size w wr) := Lib.hid (bthen HB1.out HB.out)
      have hsz := HB1.out.size
      go_wp2
      go_ret
      exact ⟨u3, rfl, row_base HEND.out hsz, HBE.out⟩
end Go.Proofs.YtgmhigjhooihdaaGreatDoor

set_option linter.unusedVariables false
namespace Go.Proofs.YtgmhigjhooihdaaGreatDoor
open Go.RowKit Plain Go.Maps

theorem row_slq {w : World} {B n sz : Nat} {e : TypeId} {v : Value} {xs : List Value} (h : w.ownsRow B e sz v n xs) (hn : 0 < n) : ∃ G cap, v = .slice (some ⟨G, 0, none⟩) n cap := by
  rcases h.2 with ⟨_, h0⟩ | ⟨g, cap, cur, hv, _⟩
  · omega
  · exact ⟨g, cap, hv⟩
theorem infoIt : (Tryz.prog.info? 112).map (fun i => (i.zero, i.size, i.bytes)) = some (some (.agg #[.int .i64 0, .int .i64 0, .string ⟨#[]⟩]), 3, 32) := by kernel_rfl
/-- an item as the door tells it -/
def outX (x : LI) : LI := if x.kind = 0 then ⟨0, x.pos, emptyB⟩ else x
def outI (l : List LI) : List LI := l.map outX
def ItPost (s : ByteArray) (w : World) (e : Ending) (w' : World) : Prop := ∃ v, e = .returned v ∧ w'.ownsRow w.heap.size 112 3 v (lexL s).length (itemsC (outI (lexL s))) ∧ Below w.heap.size w w'
set_option maxHeartbeats 8000000 in
set_option maxRecDepth 100000 in
theorem items_any (s : ByteArray) (w : World) (hs : s.size ≤ 100000) (hT : Tabs w) : Calls Tryz.prog 64 #[.string s] w (ItPost s w) := by
  unfold ItPost
  obtain ⟨i0, hi, hz0, hz1, hz2⟩ := info_parts infoIt
  have HLX := Lib.hid (zzItems_any s w hs hT)
  have hne : lexL s ≠ [] := fun e => by
    have := wfI_lexL s
    rw [e] at this
    exact this
  have hlen := lexN_len s (4 * s.size + 4) .before 0
  have hlen2 : (lexL s).length ≤ 10000000 := by unfold lexL; omega
  obtain ⟨L, hL⟩ : ∃ L, lexL s = L := ⟨_, rfl⟩
  obtain ⟨nL, hnL⟩ : ∃ nL, L.length = nL := ⟨_, rfl⟩
  have hpos : 0 < nL := by rw [← hnL, ← hL]; exact List.length_pos_iff.2 hne
  have HLL := Lib.hid hL
  have HNL := Lib.hid hnL
  rw [hL] at hne hlen2
  rw [hnL] at hlen2
  clear hL hlen hT hnL
  go_enter Tryz.func64, Tryz.ntmps64
  go_wp2_with (go_at_call 77; (with_reducible refine HLX.out.mono ?_); rintro e w1 ⟨v, rfl, hrow, hb1⟩; rw [HLL.out, HNL.out] at hrow; obtain ⟨g, cap, rfl⟩ := row_slq hrow hpos; have HB1 := Lib.hid hb1; have HROW := Lib.hid hrow; clear hb1 hrow; dsimp only)
  clear HLX
  go_loopg [3, 9] nL (fun g' v3 v9 wr => ∃ i : Nat, v9 = .int .i64 (i : Int) ∧ i ≤ nL ∧ g' = nL - i ∧ Hid (wr.ownsRow w1.heap.size 112 3 v3 i (itemsC (outI (L.take i)))) ∧ Hid (Below w1.heap.size w1 wr))
  case atStart => exact ⟨0, rfl, Nat.zero_le _, rfl, Lib.hid ⟨by simp [itemsC, outI], .inl ⟨rfl, rfl⟩⟩, Lib.hid (Below.refl _ _)⟩
  case round =>
    obtain ⟨i, rfl, hin, rfl, HR, HB⟩ := hrel
    by_cases hlt : i < nL
    · have hiz : (i : Int) < (nL : Int) := by omega
      obtain ⟨x, hx⟩ : ∃ x, L[i]? = some x := ⟨_, List.getElem?_eq_getElem (by have := HNL.out; omega)⟩
      have hrw := row_keep HROW.out (fun g hg => HB.out.block g (row_lt HROW.out hg).2)
      have x0 : wr.cell? ⟨g, i * 3, none⟩ = some (.int .i64 (x.kind : Int)) := (hrw.cellAt (i * 3) (by omega)).trans (by rw [Nat.mul_comm]; exact (itemsC_at L i x hx).1)
      have x1 : wr.cell? ⟨g, i * 3 + 1, none⟩ = some (.int .i64 (x.pos : Int)) := (hrw.cellAt (i * 3 + 1) (by omega)).trans (by rw [Nat.mul_comm]; exact (itemsC_at L i x hx).2.1)
      have x2 : wr.cell? ⟨g, i * 3 + 2, none⟩ = some (.string x.text) := (hrw.cellAt (i * 3 + 2) (by omega)).trans (by rw [Nat.mul_comm]; exact (itemsC_at L i x hx).2.2)
      obtain ⟨K, hK⟩ : ∃ K : Int, (x.kind : Int) = K := ⟨_, rfl⟩
      obtain ⟨P, hP⟩ : ∃ P : Int, (x.pos : Int) = P := ⟨_, rfl⟩
      obtain ⟨T, hTx⟩ : ∃ T, x.text = T := ⟨_, rfl⟩
      rw [hK] at x0
      rw [hP] at x1
      rw [hTx] at x2
      have HX := Lib.hid hx
      have HBs := HB.out.size
      clear hrw
      by_cases hk0 : x.kind = 0
      · have HXC : Hid (itemsC (outI (L.take (i + 1))) = itemsC (outI (L.take i)) ++ [.int .i64 0, .int .i64 P, .string ⟨#[]⟩]) := Lib.hid (by
          rw [List.take_add_one, HX.out]
          have hox : outX x = ⟨0, x.pos, emptyB⟩ := by unfold outX; rw [if_pos hk0]
          simp [itemsC, outI, hox, itemC, hP]
          rfl)
        obtain rfl : K = 0 := by omega
        clear hx hK hP hTx
        go_wp2_with (at_builtin; refine wpList_append_own_at _ rfl _ _ 109 rfl w1.heap.size 112 i0 (.agg #[.int .i64 0, .int .i64 0, .string ⟨#[]⟩]) 3 32 Tryz.underlying109 hi hz0 hz1 hz2 rfl (by decide) u3 i (itemsC (outI (L.take i))) rfl ((HR.out.alloc _).alloc _) ⟨wr.heap.size + 1, 0, none⟩ 1 1 [.int .i64 0, .int .i64 P, .string ⟨#[]⟩] rfl rfl (by have := cell_three_new (wr.alloc (.cells #[.int .i64 0, .int .i64 P, .string ⟨#[]⟩] 137)) (.int .i64 0) (.int .i64 P) (.string ⟨#[]⟩) 112; simpa using this) (by intro u hu; simp at hu; rcases hu with rfl | rfl | rfl <;> rfl) (by unfold maxLen; omega) (by omega) (by simp; omega) ?_; intro v' w6 hown6 hgr6 _ hsh6; have HO6 := Lib.hid hown6; have HG6 := Lib.hid hgr6; clear hown6 hgr6 hsh6)
        have HR2 : Hid (w6.ownsRow w1.heap.size 112 3 v' (i + 1) (itemsC (outI (L.take (i + 1))))) := Lib.hid (by rw [HXC.out]; exact HO6.out)
        have HB2 : Hid (Below w1.heap.size w1 w6) := Lib.hid (((HB.out.alloc HB.out.size _).alloc (by simp; omega) _).grown HG6.out (by simp; omega) (fun g hg => (row_lt HR.out hg).1))
        go_roundg (nL - (i + 1))
        case measure => omega
        case rel => exact ⟨i + 1, by go_num, by omega, rfl, HR2, HB2⟩
      · have HXC : Hid (itemsC (outI (L.take (i + 1))) = itemsC (outI (L.take i)) ++ [.int .i64 K, .int .i64 P, .string T]) := Lib.hid (by
          rw [List.take_add_one, HX.out]
          have hox : outX x = x := by unfold outX; rw [if_neg hk0]
          simp [itemsC, outI, hox, itemC, hP, hK, hTx])
        have hKb : (K == (0 : Int)) = false := by rw [beq_eq_false_iff_ne]; omega
        clear hx hK hP hTx
        go_wp2_with (at_builtin; refine wpList_append_own_at _ rfl _ _ 109 rfl w1.heap.size 112 i0 (.agg #[.int .i64 0, .int .i64 0, .string ⟨#[]⟩]) 3 32 Tryz.underlying109 hi hz0 hz1 hz2 rfl (by decide) u3 i (itemsC (outI (L.take i))) rfl ((HR.out.alloc _).alloc _) ⟨wr.heap.size + 1, 0, none⟩ 1 1 [.int .i64 K, .int .i64 P, .string T] rfl rfl (by have := cell_three_new (wr.alloc (.cells #[.int .i64 K, .int .i64 P, .string T] 137)) (.int .i64 K) (.int .i64 P) (.string T) 112; simpa using this) (by intro u hu; simp at hu; rcases hu with rfl | rfl | rfl <;> rfl) (by unfold maxLen; omega) (by omega) (by simp; omega) ?_; intro v' w6 hown6 hgr6 _ hsh6; have HO6 := Lib.hid hown6; have HG6 := Lib.hid hgr6; clear hown6 hgr6 hsh6)
        have HR2 : Hid (w6.ownsRow w1.heap.size 112 3 v' (i + 1) (itemsC (outI (L.take (i + 1))))) := Lib.hid (by rw [HXC.out]; exact HO6.out)
        have HB2 : Hid (Below w1.heap.size w1 w6) := Lib.hid (((HB.out.alloc HB.out.size _).alloc (by simp; omega) _).grown HG6.out (by simp; omega) (fun g hg => (row_lt HR.out hg).1))
        go_roundg (nL - (i + 1))
        case measure => omega
        case rel => exact ⟨i + 1, by go_num, by omega, rfl, HR2, HB2⟩
    · have hiz : ¬ (i : Int) < (nL : Int) := by omega
      obtain rfl : i = nL := by omega
      have HEND : Hid (wr.ownsRow w1.heap.size 112 3 u3 (lexL s).length (itemsC (outI (lexL s)))) := Lib.hid (by
        have h := HR.out
        rw [List.take_of_length_le (Nat.le_of_eq HNL.out)] at h
        rw [HLL.out, HNL.out]
        exact h)
      have HBE : Hid (Below w.heap.size w wr) := Lib.hid (bthen HB1.out HB.out)
      have hsz := HB1.out.size
      go_wp2
      go_ret
      exact ⟨u3, rfl, row_base HEND.out hsz, HBE.out⟩
end Go.Proofs.YtgmhigjhooihdaaGreatDoor

set_option linter.unusedVariables false
namespace Go.Proofs.YtgmhigjhooihdaaGreatDoor
open Go.RowKit Plain Go.Maps

theorem infoPr : (Tryz.prog.info? 34).map (fun i => (i.zero, i.size, i.bytes)) = some (some (.agg #[.string ⟨#[]⟩, .string ⟨#[]⟩, .string ⟨#[]⟩, .slice none 0 0]), 4, 72) := by kernel_rfl
def propC (p : ByteArray × ByteArray) : List Value := [.string p.1, .string p.2, .string ⟨#[]⟩, .slice none 0 0]
def propsC (l : List (ByteArray × ByteArray)) : List Value := (l.map propC).flatten
/-- the text of an item that is a value and stands first -/
def valN : List LI → ByteArray
  | [] => ⟨#[]⟩
  | y :: _ => if y.kind = 3 then y.text else ⟨#[]⟩
/-- none: an error is among the items -/
def ipL : List LI → Option (List (ByteArray × ByteArray))
  | [] => some []
  | x :: r => if x.kind = 0 then none else if x.kind = 2 then (ipL r).map ((x.text, valN r) :: ·) else ipL r
theorem cell_four_new (w : World) (a b c d : Value) (t : TypeId) : ∀ j u, ([a, b, c, d] : List Value)[j]? = some u → (w.alloc (.cells #[a, b, c, d] t)).cell? ((⟨w.heap.size, 0, none⟩ : Addr).add j) = some u := by
  intro j u hu
  rw [add_at, Nat.zero_add, World.cell?_alloc_new]
  simpa using hu
theorem ipL_len : ∀ (l : List LI) (ps : List (ByteArray × ByteArray)), ipL l = some ps → ps.length ≤ l.length := by
  intro l
  induction l with
  | nil => intro ps h; injection h with h; subst h; exact Nat.le_refl _
  | cons x r ih =>
    intro ps h
    unfold ipL at h
    split at h
    · cases h
    · split at h
      · obtain ⟨q, hq, rfl⟩ := Option.map_eq_some_iff.1 h
        have := ih q hq
        simp
        omega
      · have := ih ps h
        simp
        omega
end Go.Proofs.YtgmhigjhooihdaaGreatDoor

set_option linter.unusedVariables false
namespace Go.Proofs.YtgmhigjhooihdaaGreatDoor
open Go.RowKit Plain Go.Maps

/-- places rise from 'lo', and are at most 'hi' -/
def Rise (hi : Nat) : Nat → List LI → Prop
  | _, [] => True
  | lo, x :: r => lo ≤ x.pos ∧ x.pos ≤ hi ∧ Rise hi x.pos r
theorem rise_mono {hi lo lo' : Nat} {l : List LI} (h : Rise hi lo l) (hl : lo' ≤ lo) : Rise hi lo' l := by
  cases l with
  | nil => trivial
  | cons x r => exact ⟨Nat.le_trans hl h.1, h.2⟩
theorem lexS_shape (s : ByteArray) (nx : NX) (p : Nat) (hp : p ≤ s.size) :
    (∃ x, lexS s nx p = ([], some x)) ∨ (∃ a x, lexS s nx p = ([a], some x) ∧ p ≤ a.pos ∧ a.pos ≤ x.2) ∨ (∃ a, lexS s nx p = ([a], none) ∧ p ≤ a.pos ∧ a.pos ≤ s.size) ∨ (∃ a b, lexS s nx p = ([a, b], none) ∧ p ≤ a.pos ∧ a.pos ≤ b.pos ∧ b.pos ≤ s.size) := by
  cases nx with
  | before =>
    by_cases h : p < s.size
    · left
      unfold lexS
      dsimp only
      rw [if_pos h]
      repeat' split
      all_goals exact ⟨_, rfl⟩
    · right; right; left
      exact ⟨⟨1, p, emptyB⟩, by unfold lexS; dsimp only; rw [if_neg h], Nat.le_refl _, hp⟩
  | comment =>
    have h1 := skipW_ge s p
    have h2 := skipW_le s p hp
    have h3 := comL_bd s (skipW s p) [] h2
    rcases hc : comL s (skipW s p) [] with ⟨acc, q, b⟩
    rw [hc] at h3
    cases b
    · right; left
      exact ⟨⟨4, skipW s p, textOf acc⟩, (.before, q), by unfold lexS; dsimp only; rw [hc], h1, h3.1⟩
    · right; right; left
      exact ⟨⟨1, q, textOf acc⟩, by unfold lexS; dsimp only; rw [hc], Nat.le_trans h1 h3.1, h3.2.1⟩
  | key =>
    rcases hk : keyL s p [] with e | ⟨acc, q, b⟩
    · right; right; left
      exact ⟨⟨0, p, e⟩, by unfold lexS; dsimp only; rw [hk], Nat.le_refl _, hp⟩
    · have h3 := keyL_bd s p [] hp _ hk
      by_cases ha : acc = [] <;> cases b
      · left
        exact ⟨(.bval, q), by unfold lexS; dsimp only; rw [hk]; simp [ha]⟩
      · right; right; left
        exact ⟨⟨1, q, emptyB⟩, by unfold lexS; dsimp only; rw [hk]; simp [ha], h3.1, h3.2⟩
      · right; left
        exact ⟨⟨2, p, textOf acc⟩, (.bval, q), by unfold lexS; dsimp only; rw [hk]; simp [ha], Nat.le_refl _, h3.1⟩
      · right; right; right
        exact ⟨⟨2, p, textOf acc⟩, ⟨1, q, emptyB⟩, by unfold lexS; dsimp only; rw [hk]; simp [ha], Nat.le_refl _, h3.1, h3.2⟩
  | bval => left; exact ⟨(.val, bvalP s p), rfl⟩
  | val =>
    rcases hk : valL s p [] with e | ⟨acc, q, b⟩
    · right; right; left
      exact ⟨⟨0, p, e⟩, by unfold lexS; dsimp only; rw [hk], Nat.le_refl _, hp⟩
    · have h3 := valL_bd s p [] hp _ hk
      cases b
      · right; left
        exact ⟨⟨3, p, textOf acc⟩, (.before, q), by unfold lexS; dsimp only; rw [hk]; simp, Nat.le_refl _, h3.1⟩
      · right; right; right
        exact ⟨⟨3, p, textOf acc⟩, ⟨1, q, emptyB⟩, by unfold lexS; dsimp only; rw [hk]; simp, Nat.le_refl _, h3.1, h3.2.1⟩
theorem rise_lexN (s : ByteArray) : ∀ (f : Nat) (nx : NX) (p : Nat), p ≤ s.size → Rise s.size p (lexN s f nx p) := by
  intro f
  induction f with
  | zero => intro nx p hp; trivial
  | succ f ih =>
    intro nx p hp
    unfold lexN
    have hm := fun x hx => lexS_mu s nx p hp x hx
    rcases lexS_shape s nx p hp with ⟨x, hx⟩ | ⟨a, x, hx, h1, h2⟩ | ⟨a, hx, h1, h2⟩ | ⟨a, b, hx, h1, h2, h3⟩
    · rw [hx] at hm ⊢
      have hq := hm x rfl
      exact rise_mono (ih x.1 x.2 hq.2.1) hq.1
    · rw [hx] at hm ⊢
      have hq := hm x rfl
      exact ⟨h1, Nat.le_trans h2 hq.2.1, rise_mono (ih x.1 x.2 hq.2.1) h2⟩
    · rw [hx]
      exact ⟨h1, h2, trivial⟩
    · rw [hx]
      exact ⟨h1, Nat.le_trans h2 h3, h2, h3, trivial⟩
theorem rise_out {hi : Nat} : ∀ {l : List LI} {lo : Nat}, Rise hi lo l → Rise hi lo (outI l) := by
  intro l
  induction l with
  | nil => intro lo h; trivial
  | cons x r ih =>
    intro lo h
    have hp : (outX x).pos = x.pos := by unfold outX; split <;> rfl
    show lo ≤ (outX x).pos ∧ (outX x).pos ≤ hi ∧ Rise hi (outX x).pos (outI r)
    rw [hp]
    exact ⟨h.1, h.2.1, ih h.2.2⟩
theorem rise_at {hi : Nat} : ∀ {l : List LI} {lo : Nat}, Rise hi lo l → ∀ (i : Nat) (x : LI), l[i]? = some x → x.pos ≤ hi ∧ ∀ (j : Nat) (y : LI), i = j + 1 → l[j]? = some y → y.pos ≤ x.pos := by
  intro l
  induction l with
  | nil => intro lo h i x hx; simp at hx
  | cons z r ih =>
    intro lo h i x hx
    match i, hx with
    | 0, hx =>
      simp at hx
      subst hx
      exact ⟨h.2.1, fun j y e _ => by omega⟩
    | i + 1, hx =>
      have hx' : r[i]? = some x := by simpa using hx
      have h9 := ih h.2.2 i x hx'
      refine ⟨h9.1, fun j y e hy => ?_⟩
      obtain rfl : i = j := by omega
      match i, hy with
      | 0, hy =>
        simp at hy
        subst hy
        cases r with
        | nil => simp at hx'
        | cons u r =>
          simp at hx'
          subst hx'
          exact h.2.2.1
      | i + 1, hy =>
        have hy' : r[i]? = some y := by simpa using hy
        exact h9.2 i y rfl hy'
/-- the end or an error stands last, and there alone -/
theorem wfI_at : ∀ {l : List LI}, WfI l → ∀ (i : Nat) (x : LI), l[i]? = some x → x.kind ≤ 4 ∧ (x.kind < 2 ↔ i + 1 = l.length) := by
  intro l
  induction l with
  | nil => intro h i x hx; simp at hx
  | cons z r ih =>
    intro h i x hx
    cases r with
    | nil =>
      have h0 : z.kind < 2 := h
      match i, hx with
      | 0, hx => simp at hx; subst hx; exact ⟨by omega, by simp; exact h0⟩
      | i + 1, hx => simp at hx
    | cons y r =>
      obtain ⟨h1, h2, h3⟩ : 2 ≤ z.kind ∧ z.kind ≤ 4 ∧ WfI (y :: r) := h
      match i, hx with
      | 0, hx => simp at hx; subst hx; exact ⟨h2, by simp; omega⟩
      | i + 1, hx =>
        have hx' : (y :: r)[i]? = some x := by simpa using hx
        have h9 := ih h3 i x hx'
        refine ⟨h9.1, h9.2.trans ?_⟩
        simp
/-- the value at a key -/
def rawOf (D : DataW Unit) (k : ByteArray) : ByteArray := match D.atKey (keyL8 k) (.lit (.string [])) with | .lit (.string l) => ⟨l.toArray⟩ | _ => ⟨#[]⟩
theorem rawOf_of {D : DataW Unit} {k v : ByteArray} (h : D.atKey (keyL8 k) (.lit (.string [])) = .lit (.string v.data.toList)) : rawOf D k = v := by
  unfold rawOf
  rw [h]
def rawO (D : DataW Unit) (k : ByteArray) : Option ByteArray := if Maps.has D (keyL8 k) = true then some (rawOf D k) else none
theorem keyL8_key (k : ByteArray) : WideAt.IsKeyLit (keyL8 k) := by unfold keyL8; trivial
theorem rawO_put {D : DataW Unit} (hD : IsMap D) (k v x : ByteArray) : rawO (D.put (keyL8 k) (.lit (.string v.data.toList))) x = if k = x then some v else rawO D x := by
  unfold rawO
  by_cases h : k = x
  · subst h
    rw [if_pos rfl, has_put_same (k := keyL8 k) hD (keyL8_key k), if_pos rfl, rawOf_of (atKey_put_same (k := keyL8 k) hD (keyL8_key k) _ _)]
  · have hne : keyL8 x ≠ keyL8 k := fun e => h (by
      unfold keyL8 at e
      injection e with e
      exact (ByteArray.ext (Array.toList_inj.1 e)).symm)
    rw [if_neg h, has_put_other hne]
    unfold rawOf
    rw [atKey_put_other hne]
theorem has_rawO {D : DataW Unit} {k : ByteArray} (h : Maps.has D (keyL8 k) = true) : rawO D k = some (rawOf D k) := by unfold rawO; rw [if_pos h]
/-- the last value of a key -/
def lastF : List (ByteArray × ByteArray) → ByteArray → Option ByteArray → Option ByteArray
  | [], _, a => a
  | q :: r, k, a => lastF r k (if q.1 = k then some q.2 else a)
theorem isMap_put {D : DataW Unit} (h : IsMap D) (k : Lit) (d : DataW Unit) : IsMap (D.put k d) := by
  obtain ⟨es, rfl⟩ := h
  exact ⟨_, rfl⟩
theorem has_isKey {D : DataW Unit} {k x : ByteArray} {d : DataW Unit} (hD : IsMap D) (h : Maps.has D (keyL8 x) = true ∨ x = k) : Maps.has (D.put (keyL8 k) d) (keyL8 x) = true := by
  by_cases e : x = k
  · subst e
    exact has_put_same (k := keyL8 x) hD (keyL8_key x) _
  · have hne : keyL8 x ≠ keyL8 k := fun e' => e (by
      unfold keyL8 at e'
      injection e' with e'
      exact ByteArray.ext (Array.toList_inj.1 e'))
    rw [has_put_other hne]
    rcases h with h | h
    · exact h
    · exact absurd h e
/-- one key and its value: what the parser's state is then -/
theorem addP_facts (p : PSt) (T V : ByteArray) (cm : List ByteArray) (hD : IsMap p.D) (hks : ∀ k ∈ p.ks, Maps.has p.D (keyL8 k) = true) :
    IsMap (putV (addC (addK p T) T cm) T V).D ∧ (∀ k ∈ (putV (addC (addK p T) T cm) T V).ks, Maps.has (putV (addC (addK p T) T cm) T V).D (keyL8 k) = true) ∧
    (∀ k, rawO (putV (addC (addK p T) T cm) T V).D k = if T = k then some V else rawO p.D k) ∧ (putV (addC (addK p T) T cm) T V).ks.length ≤ p.ks.length + 1 := by
  have e1 : (putV (addC (addK p T) T cm) T V).D = p.D.put (keyL8 T) (.lit (.string V.data.toList)) := by
    unfold putV addC addK
    split <;> split <;> rfl
  have e2 : (putV (addC (addK p T) T cm) T V).ks = if Maps.has p.D (keyL8 T) = true then p.ks else p.ks ++ [T] := by
    unfold putV addC addK
    split <;> split <;> rfl
  rw [e1, e2]
  refine ⟨isMap_put hD _ _, ?_, fun k => rawO_put hD T V k, ?_⟩
  · intro k hk
    refine has_isKey hD ?_
    split at hk
    · exact .inl (hks k hk)
    · rcases List.mem_append.1 hk with h | h
      · exact .inl (hks k h)
      · simp at h; exact .inr h
  · split <;> simp
theorem outI_cons (x : LI) (r : List LI) : outI (x :: r) = outX x :: outI r := rfl
theorem outX_ne {x : LI} (h : x.kind ≠ 0) : outX x = x := by unfold outX; rw [if_neg h]
theorem ipL_skip {x : LI} {r : List LI} (h0 : x.kind ≠ 0) (h2 : x.kind ≠ 2) : ipL (outI (x :: r)) = ipL (outI r) := by
  rw [outI_cons, outX_ne h0, ipL, if_neg h0, if_neg h2]
theorem ipL_key {x : LI} {r : List LI} (h2 : x.kind = 2) : ipL (outI (x :: r)) = (ipL (outI r)).map ((x.text, valN (outI r)) :: ·) := by
  rw [outI_cons, outX_ne (by omega), ipL, if_neg (by omega), if_pos h2]
theorem valN_out (y : LI) (r : List LI) : valN (outI (y :: r)) = if y.kind = 3 then y.text else ⟨#[]⟩ := by
  rw [outI_cons]
  show (if (outX y).kind = 3 then (outX y).text else ⟨#[]⟩) = _
  by_cases h : y.kind = 0
  · unfold outX; rw [if_pos h, if_neg (show ¬ (0 : Nat) = 3 by omega), if_neg (by omega)]
  · rw [outX_ne h]
theorem parL_err : ∀ (n : Nat) (l : List LI) (cm : List ByteArray) (p : PSt), l.length ≤ n → WfI l → ipL (outI l) = none → parL l cm p = none := by
  intro n
  induction n with
  | zero => intro l cm p hn hw _; cases l with
    | nil => exact hw.elim
    | cons x r => simp at hn
  | succ n ih =>
    intro l cm p hn hw h
    match l, hw, hn with
    | [x], hw, hn =>
      have hx : x.kind < 2 := hw
      by_cases h0 : x.kind = 0
      · unfold parL
        rw [if_neg (by omega), if_neg (by omega), if_neg (by omega)]
      · rw [ipL_skip h0 (by omega)] at h
        simp [outI, ipL] at h
    | x :: y :: r, hw, hn =>
      obtain ⟨h1, h2, h3⟩ : 2 ≤ x.kind ∧ x.kind ≤ 4 ∧ WfI (y :: r) := hw
      have hn' : (y :: r).length ≤ n := by simp at hn ⊢; omega
      unfold parL
      rw [if_neg (by omega)]
      by_cases h4 : x.kind = 4
      · rw [if_pos h4]
        rw [ipL_skip (by omega) (by omega)] at h
        exact ih _ _ _ hn' h3 h
      · rw [if_neg h4]
        by_cases hk : x.kind = 2
        · rw [if_pos hk]
          rw [ipL_key hk, Option.map_eq_none_iff] at h
          dsimp only
          by_cases hy1 : y.kind = 1
          · exfalso
            cases r with
            | nil =>
              rw [ipL_skip (by omega) (by omega)] at h
              simp [outI, ipL] at h
            | cons z r => have : 2 ≤ y.kind := h3.1; omega
          · rw [if_neg hy1]
            by_cases hy3 : y.kind = 3
            · rw [if_pos hy3]
              rw [ipL_skip (by omega) (by omega)] at h
              cases r with
              | nil => have : y.kind < 2 := h3; omega
              | cons z r => exact ih _ _ _ (by simp at hn' ⊢; omega) h3.2.2 h
            · rw [if_neg hy3]
        · rw [if_neg hk]
theorem parL_ip : ∀ (n : Nat) (l : List LI) (cm : List ByteArray) (p p' : PSt) (ps : List (ByteArray × ByteArray)), l.length ≤ n → WfI l → IsMap p.D → (∀ k ∈ p.ks, Maps.has p.D (keyL8 k) = true) → parL l cm p = some p' → ipL (outI l) = some ps →
    (∀ k ∈ p'.ks, Maps.has p'.D (keyL8 k) = true) ∧ (∀ k, rawO p'.D k = lastF ps k (rawO p.D k)) ∧ p'.ks.length ≤ p.ks.length + ps.length := by
  intro n
  induction n with
  | zero => intro l cm p p' ps hn hw; cases l with
    | nil => exact hw.elim
    | cons x r => simp at hn
  | succ n ih =>
    intro l cm p p' ps hn hw hD hks hp hi
    match l, hw, hn with
    | [x], hw, hn =>
      have hx : x.kind < 2 := hw
      unfold parL at hp
      by_cases h1 : x.kind = 1
      · rw [if_pos h1] at hp
        injection hp with hp
        subst hp
        rw [ipL_skip (by omega) (by omega)] at hi
        simp [outI, ipL] at hi
        subst hi
        exact ⟨hks, fun k => rfl, Nat.le_refl _⟩
      · rw [if_neg h1, if_neg (by omega), if_neg (by omega)] at hp
        cases hp
    | x :: y :: r, hw, hn =>
      obtain ⟨h1, h2, h3⟩ : 2 ≤ x.kind ∧ x.kind ≤ 4 ∧ WfI (y :: r) := hw
      have hn' : (y :: r).length ≤ n := by simp at hn ⊢; omega
      unfold parL at hp
      rw [if_neg (by omega)] at hp
      by_cases h4 : x.kind = 4
      · rw [if_pos h4] at hp
        rw [ipL_skip (by omega) (by omega)] at hi
        exact ih _ _ _ _ _ hn' h3 hD hks hp hi
      · rw [if_neg h4] at hp
        by_cases hk : x.kind = 2
        · rw [if_pos hk] at hp
          rw [ipL_key hk] at hi
          obtain ⟨qs, hqs, rfl⟩ := Option.map_eq_some_iff.1 hi
          rw [valN_out]
          dsimp only at hp
          by_cases hy1 : y.kind = 1
          · rw [if_pos hy1] at hp
            injection hp with hp
            subst hp
            obtain ⟨f1, f2, f3, f4⟩ := addP_facts p x.text emptyB cm hD hks
            cases r with
            | nil =>
              rw [ipL_skip (by omega) (by omega)] at hqs
              simp [outI, ipL] at hqs
              subst hqs
              rw [if_neg (by omega)]
              exact ⟨f2, fun k => by rw [f3 k]; rfl, by simpa using f4⟩
            | cons z r => have : 2 ≤ y.kind := h3.1; omega
          · rw [if_neg hy1] at hp
            by_cases hy3 : y.kind = 3
            · rw [if_pos hy3] at hp ⊢
              rw [ipL_skip (by omega) (by omega)] at hqs
              obtain ⟨f1, f2, f3, f4⟩ := addP_facts p x.text y.text cm hD hks
              cases r with
              | nil => have : y.kind < 2 := h3; omega
              | cons z r =>
                obtain ⟨g1, g2, g3⟩ := ih _ _ _ _ _ (by simp at hn' ⊢; omega) h3.2.2 f1 f2 hp hqs
                refine ⟨g1, fun k => ?_, ?_⟩
                · rw [g2 k, f3 k]
                  rfl
                · simp
                  omega
            · rw [if_neg hy3] at hp
              cases hp
        · rw [if_neg hk] at hp
          cases hp
/-- the law: what a text's items tell is what its parser keeps -/
theorem items_law (s : ByteArray) (p : PSt) (ps : List (ByteArray × ByteArray)) (hp : parL (lexL s) [] pst0 = some p) (hi : ipL (outI (lexL s)) = some ps) :
    (∀ k ∈ p.ks, lastF ps k none = some (rawOf p.D k)) ∧ p.ks.length ≤ ps.length := by
  obtain ⟨h1, h2, h3⟩ := parL_ip _ _ [] pst0 p ps (Nat.le_refl _) (wfI_lexL s) ⟨[], rfl⟩ (fun k hk => by simp [pst0] at hk) hp hi
  refine ⟨fun k hk => ?_, by simpa [pst0] using h3⟩
  rw [← has_rawO (h1 k hk), h2 k]
  rfl
end Go.Proofs.YtgmhigjhooihdaaGreatDoor

set_option linter.unusedVariables false
namespace Go.Proofs.YtgmhigjhooihdaaGreatDoor
open Go.RowKit Plain Go.Maps

def atL (s : ByteArray) (p : Nat) (l : List UInt8) : Prop := s.data.toList.drop p = l
theorem atL_next {s : ByteArray} {p : Nat} {x : UInt8} {r : List UInt8} (h : atL s p (x :: r)) : atL s (p + 1) r := by
  unfold atL at h ⊢
  rw [← List.drop_drop, h]
  rfl
theorem atL_app {s : ByteArray} {p : Nat} : ∀ {l r : List UInt8}, atL s p (l ++ r) → atL s (p + l.length) r := by
  intro l r h
  unfold atL at h ⊢
  rw [← List.drop_drop, h, List.drop_left]
theorem atL_lt {s : ByteArray} {p : Nat} {x : UInt8} {r : List UInt8} (h : atL s p (x :: r)) : p < s.size := by
  unfold atL at h
  have := congrArg List.length h
  rw [List.length_drop, ← Lib.size_eq] at this
  simp at this
  omega
theorem atL_end {s : ByteArray} {p : Nat} (h : atL s p []) : ¬ p < s.size := by
  unfold atL at h
  have := congrArg List.length h
  rw [List.length_drop, ← Lib.size_eq] at this
  simp at this
  omega
theorem atL_dec {s : ByteArray} {p : Nat} {x : UInt8} {r : List UInt8} (h : atL s p (x :: r)) (hx : x.toNat < 128) : rAt s p = x.toNat ∧ kAt s p = 1 := by
  unfold atL at h
  have h1 := Lib.decodeL_drop s p
  rw [h, Lib.decodeL_ascii x r hx] at h1
  unfold rAt kAt
  rw [← h1]
  exact ⟨rfl, rfl⟩
theorem val_stop (s : ByteArray) (p : Nat) (acc : List Nat) (rest : List UInt8) (h : atL s p (10 :: rest)) : valL s p acc = .ok (acc, p + 1, false) := by
  obtain ⟨d1, d2⟩ := atL_dec h (by decide)
  have d1' : rAt s p = 10 := d1
  unfold valL
  rw [dif_pos (atL_lt h), d1', if_neg (by decide), if_pos (by decide), d2]
theorem skip_run (s : ByteArray) : ∀ (bl : List UInt8) (p : Nat) (rest : List UInt8), (∀ c ∈ bl, c.toNat < 128 ∧ wsR c.toNat = true) → atL s p (bl ++ rest) → skipW s p = skipW s (p + bl.length) := by
  intro bl
  induction bl with
  | nil => intro p rest h1 h2; simp
  | cons c bl ih =>
    intro p rest h1 h2
    obtain ⟨a1, a2⟩ := h1 c List.mem_cons_self
    obtain ⟨d1, d2⟩ := atL_dec h2 a1
    conv => lhs; unfold skipW
    rw [dif_pos (atL_lt h2), d1, if_pos a2, d2]
    rw [ih (p + 1) rest (fun x hx => h1 x (List.mem_cons_of_mem _ hx)) (atL_next h2)]
    congr 1
    simp
    omega
theorem skip_stop (s : ByteArray) (p : Nat) (x : UInt8) (rest : List UInt8) (h : atL s p (x :: rest)) (h1 : x.toNat < 128) (h2 : wsR x.toNat = false) : skipW s p = p := by
  obtain ⟨d1, d2⟩ := atL_dec h h1
  unfold skipW
  rw [dif_pos (atL_lt h), d1, if_neg (by rw [h2]; simp)]
theorem lex_ws (s : ByteArray) (m p : Nat) (x : UInt8) (rest : List UInt8) (h : atL s p (x :: rest)) (hx : x = 32 ∨ x = 10) : lexN s (m + 1) .before p = lexN s m .before (p + 1) := by
  have h1 : x.toNat < 128 := by rcases hx with rfl | rfl <;> decide
  obtain ⟨d1, d2⟩ := atL_dec h h1
  conv => lhs; unfold lexN lexS
  dsimp only
  simp only [if_pos (atL_lt h), d1, d2]
  rcases hx with rfl | rfl
  · simp [eolR, wsR]
  · simp [eolR]
theorem lex_end (s : ByteArray) (m p : Nat) (h : atL s p []) : lexN s (m + 1) .before p = [⟨1, p, emptyB⟩] := by
  conv => lhs; unfold lexN lexS
  dsimp only
  simp only [if_neg (atL_end h)]
  rfl
theorem enc_asc (b : UInt8) (h : b.toNat < 128) : Lib.encodeRune (b.toNat : Int) = [b] := by
  unfold Lib.encodeRune
  rw [Lib.encodeRuneZ_one (by omega) (by omega)]
  simp
end Go.Proofs.YtgmhigjhooihdaaGreatDoor

set_option linter.unusedVariables false
namespace Go.Proofs.YtgmhigjhooihdaaGreatDoor
open Go.RowKit Plain Go.Maps

/-- the parser's state is small -/
structure PBd (M N : Nat) (p : PSt) : Prop where
  tidy : Tidy p.D
  keys : ∀ k ∈ p.ks, k.size ≤ M
  kn : p.ks.length ≤ N
  dn : Maps.size p.D ≤ N
  cn : ∀ k c, p.cf k = some c → c.length ≤ N
  has : ∀ k ∈ p.ks, Maps.has p.D (keyL8 k) = true
  vals : ∀ k, (rawOf p.D k).size ≤ M
theorem rawOf_put {D : DataW Unit} (hD : IsMap D) (k v x : ByteArray) : rawOf (D.put (keyL8 k) (.lit (.string v.data.toList))) x = if k = x then v else rawOf D x := by
  by_cases h : k = x
  · subst h
    rw [if_pos rfl, rawOf_of (atKey_put_same (k := keyL8 k) hD (keyL8_key k) _ _)]
  · have hne : keyL8 x ≠ keyL8 k := fun e => h (by
      unfold keyL8 at e
      injection e with e
      exact (ByteArray.ext (Array.toList_inj.1 e)).symm)
    rw [if_neg h]
    unfold rawOf
    rw [atKey_put_other hne]
theorem PBd.add {M N : Nat} {p : PSt} (h : PBd M N p) {T V : ByteArray} {cm : List ByteArray} (hT : T.size ≤ M) (hV : V.size ≤ M) (hc : cm.length ≤ N + 1) : PBd M (N + 1) (putV (addC (addK p T) T cm) T V) := by
  have e1 : (putV (addC (addK p T) T cm) T V).D = p.D.put (keyL8 T) (.lit (.string V.data.toList)) := by
    unfold putV addC addK
    split <;> split <;> rfl
  have e2 : (putV (addC (addK p T) T cm) T V).ks = if Maps.has p.D (keyL8 T) = true then p.ks else p.ks ++ [T] := by
    unfold putV addC addK
    split <;> split <;> rfl
  have e3 : (putV (addC (addK p T) T cm) T V).cf = if cm = [] then p.cf else updC p.cf T cm := by
    unfold putV addC addK
    split <;> split <;> rfl
  obtain ⟨f1, f2, f3, f4⟩ := addP_facts p T V cm h.tidy.isMap h.has
  refine ⟨?_, ?_, ?_, ?_, ?_, f2, ?_⟩
  · rw [e1]; exact h.tidy.put (keyL8_key T) _
  · intro k hk
    rw [e2] at hk
    split at hk
    · exact h.keys k hk
    · rcases List.mem_append.1 hk with h9 | h9
      · exact h.keys k h9
      · simp at h9; subst h9; exact hT
  · have := h.kn; omega
  · rw [e1, size_put h.tidy]
    have := h.dn
    split <;> omega
  · intro k c hk
    rw [e3] at hk
    split at hk
    · have := h.cn k c hk; omega
    · unfold updC at hk
      split at hk
      · injection hk with hk; subst hk; exact hc
      · have := h.cn k c hk; omega
  · intro k
    rw [e1, rawOf_put h.tidy.isMap]
    split
    · exact hV
    · exact h.vals k
theorem PBd.mono {M N N' : Nat} {p : PSt} (h : PBd M N p) (hn : N ≤ N') : PBd M N' p :=
  ⟨h.tidy, h.keys, Nat.le_trans h.kn hn, Nat.le_trans h.dn hn, fun k c hk => Nat.le_trans (h.cn k c hk) hn, h.has, h.vals⟩
theorem pbd0 (M N : Nat) : PBd M N pst0 := ⟨tidy_empty, fun k hk => by simp [pst0] at hk, Nat.zero_le _, Nat.zero_le _, fun k c hk => by simp [pst0] at hk, fun k hk => by simp [pst0] at hk, fun k => by
  have : rawOf pst0.D k = ⟨#[]⟩ := rfl
  rw [this]
  exact Nat.zero_le _⟩
theorem parL_bd (M : Nat) : ∀ (m : Nat) (l : List LI) (cm : List ByteArray) (p p' : PSt) (N : Nat), l.length ≤ m → (∀ x ∈ l, x.text.size ≤ M) → PBd M N p → cm.length ≤ N → parL l cm p = some p' → PBd M (N + l.length) p' := by
  intro m
  induction m with
  | zero => intro l cm p p' N hl; cases l with
    | nil => intro _ _ _ h; simp [parL] at h
    | cons x r => simp at hl
  | succ m ih =>
    intro l cm p p' N hl hx hp hc h
    cases l with
    | nil => simp [parL] at h
    | cons x r =>
      have hxT := hx x List.mem_cons_self
      simp only [List.length_cons] at hl
      unfold parL at h
      by_cases h1 : x.kind = 1
      · rw [if_pos h1] at h
        injection h with h
        subst h
        exact hp.mono (by omega)
      · rw [if_neg h1] at h
        by_cases h4 : x.kind = 4
        · rw [if_pos h4] at h
          have := ih r _ p p' (N + 1) (by omega) (fun y hy => hx y (List.mem_cons_of_mem _ hy)) (hp.mono (by omega)) (by simp; omega) h
          exact this.mono (by simp; omega)
        · rw [if_neg h4] at h
          by_cases h2 : x.kind = 2
          · rw [if_pos h2] at h
            cases r with
            | nil => cases h
            | cons y r =>
              simp only [List.length_cons] at hl
              dsimp only at h
              by_cases hy1 : y.kind = 1
              · rw [if_pos hy1] at h
                injection h with h
                subst h
                exact (hp.add hxT (Nat.zero_le _) (by omega)).mono (by simp)
              · rw [if_neg hy1] at h
                by_cases hy3 : y.kind = 3
                · rw [if_pos hy3] at h
                  have hyT := hx y (List.mem_cons_of_mem _ List.mem_cons_self)
                  have := ih r [] _ p' (N + 1) (by omega) (fun z hz => hx z (List.mem_cons_of_mem _ (List.mem_cons_of_mem _ hz))) (hp.add hxT hyT (by omega)) (Nat.zero_le _) h
                  exact this.mono (by simp; omega)
                · rw [if_neg hy3] at h
                  cases h
          · rw [if_neg h2] at h
            cases h
theorem parL_small (s : ByteArray) (p : PSt) (hs : s.size ≤ 100000) (h : parL (lexL s) [] pst0 = some p) : PBd 1000000 1000000 p := by
  have hl := lexN_len s (4 * s.size + 4) .before 0
  have := parL_bd 1000000 _ (lexL s) [] pst0 p 0 (Nat.le_refl _) (fun x hx => by have := lexL_text s x hx; omega) (pbd0 _ _) (Nat.zero_le _) h
  exact this.mono (by unfold lexL; omega)
theorem mp_size {w : World} {mb n : Nat} {D : DataW Unit} (h : MpS w mb n D) : MpS w mb (Maps.size D) D := by
  obtain ⟨es, clock, hb, F, hs, rfl⟩ := h
  exact ⟨es, clock, hb, F, by simp [Maps.size, length_sorted], rfl⟩
end Go.Proofs.YtgmhigjhooihdaaGreatDoor

set_option linter.unusedVariables false
namespace Go.Proofs.YtgmhigjhooihdaaGreatDoor
open Go.RowKit Plain Go.Maps

/-- a rune that a character of UTF-8 is -/
def GR (R : Nat) : Prop := Plain.Good (Lib.encodeRune (R : Int)) ∧ runeOf (Lib.encodeRune (R : Int)) = R
theorem gr_of {c : List UInt8} (h : Plain.Good c) : GR (runeOf c) := by
  unfold GR
  rw [encode_runeOf c h]
  exact ⟨h, rfl⟩
theorem gr_rns {s : ByteArray} (h : Lib.validD s.data.toList = true) : ∀ R ∈ rnsOf s.data.toList, GR R := by
  intro R hR
  unfold rnsOf at hR
  obtain ⟨c, hc, rfl⟩ := List.mem_map.1 hR
  exact gr_of (segs_good _ h c hc)
theorem textOf_rns {s : ByteArray} (h : Lib.validD s.data.toList = true) : textOf (rnsOf s.data.toList) = s := by
  have h1 := textOf_good (segs s.data.toList) (segs_good _ h)
  rw [segs_flatten] at h1
  exact ByteArray.ext (Array.toList_inj.1 h1)
theorem rns_flat {l : List UInt8} (h : Lib.validD l = true) : ((rnsOf l).map fun (R : Nat) => Lib.encodeRune (R : Int)).flatten = l := by
  conv => rhs; rw [← segs_flatten l]
  unfold rnsOf
  rw [List.map_map]
  congr 1
  conv => rhs; rw [← List.map_id (segs l)]
  exact List.map_congr_left fun c hc => encode_runeOf c (segs_good _ h c hc)
theorem atL_len {s : ByteArray} {p : Nat} {l : List UInt8} (h : atL s p l) (hp : p ≤ s.size) : p + l.length = s.size := by
  unfold atL at h
  have := congrArg List.length h
  rw [List.length_drop, ← Lib.size_eq] at this
  omega
/-- a character at a place -/
theorem atR {s : ByteArray} {p R : Nat} {rest : List UInt8} (h : atL s p (Lib.encodeRune (R : Int) ++ rest)) (hg : GR R) : p < s.size ∧ rAt s p = R ∧ kAt s p = (Lib.encodeRune (R : Int)).length ∧ atL s (p + kAt s p) rest := by
  have h0 := h
  unfold atL at h
  have hd := Lib.decodeL_drop s p
  rw [h, good_append _ _ hg.1] at hd
  have e1 : rAt s p = R := by unfold rAt; rw [← hd]; exact hg.2
  have e2 : kAt s p = (Lib.encodeRune (R : Int)).length := by unfold kAt; rw [← hd]; exact hg.1.2.1
  refine ⟨?_, e1, e2, ?_⟩
  · have := congrArg List.length h
    rw [List.length_drop, ← Lib.size_eq, List.length_append] at this
    have h2 : 0 < (Lib.encodeRune (R : Int)).length := List.length_pos_iff.2 hg.1.1
    omega
  · rw [e2]
    exact atL_app h0
/-- what is written for a key's rune -/
def wrK (R : Nat) : List UInt8 := if R = 12 then [92, 102] else if R = 10 then [92, 110] else if R = 13 then [92, 114] else if R = 9 then [92, 116] else if R = 92 then [92, 92] else if R = 32 then [92, 32] else if R = 58 then [92, 58] else if R = 61 then [92, 61] else Lib.encodeRune (R : Int)
/-- what is written for a value's rune; f: the first one -/
def wrV (f : Bool) (R : Nat) : List UInt8 := if R = 12 then [92, 102] else if R = 10 then [92, 110] else if R = 13 then [92, 114] else if R = 9 then [92, 116] else if R = 92 then [92, 92] else if f = true ∧ R = 32 then [92, 32] else Lib.encodeRune (R : Int)
def keyT (rs : List Nat) : List UInt8 := (rs.map wrK).flatten
def valT : List Nat → List UInt8
  | [] => []
  | R :: rs => wrV true R ++ (rs.map (wrV false)).flatten
theorem two_at {s : ByteArray} {p : Nat} {y : UInt8} {rest : List UInt8} (h : atL s p (92 :: y :: rest)) (hy : y.toNat < 128) : p < s.size ∧ rAt s p = 92 ∧ kAt s p = 1 ∧ p + 1 < s.size ∧ rAt s (p + 1) = y.toNat ∧ kAt s (p + 1) = 1 ∧ atL s (p + 2) rest := by
  obtain ⟨d1, d2⟩ := atL_dec h (by decide)
  have hn := atL_next h
  obtain ⟨e1, e2⟩ := atL_dec hn hy
  exact ⟨atL_lt h, d1, d2, atL_lt hn, e1, e2, atL_next hn⟩
theorem key_two {s : ByteArray} {p : Nat} {acc : List Nat} {y : UInt8} {rest : List UInt8} (h : atL s p (92 :: y :: rest)) (hy : y.toNat < 128) (R : Nat) (hs : (escC y.toNat = true ∧ decEsc y.toNat = R) ∨ (escC y.toNat = false ∧ y.toNat ≠ 117 ∧ y.toNat = R)) : keyL s p acc = keyL s (p + 2) (acc ++ [R]) ∧ atL s (p + 2) rest := by
  obtain ⟨a1, a2, a3, a4, a5, a6, a7⟩ := two_at h hy
  refine ⟨?_, a7⟩
  refine keyL_esc a1 a2 (R, p + 2) ?_
  rw [a3]
  unfold scanE
  rw [if_pos a4, a5, a6]
  rcases hs with ⟨h1, h2⟩ | ⟨h1, h2, h3⟩
  · rw [if_pos h1, h2]
  · rw [if_neg (by rw [h1]; simp), if_neg h2, h3]
theorem val_two {s : ByteArray} {p : Nat} {acc : List Nat} {y : UInt8} {rest : List UInt8} (h : atL s p (92 :: y :: rest)) (hy : y.toNat < 128) (he : eolR y.toNat = false) (R : Nat) (hs : (escC y.toNat = true ∧ decEsc y.toNat = R) ∨ (escC y.toNat = false ∧ y.toNat ≠ 117 ∧ y.toNat = R)) : valL s p acc = valL s (p + 2) (acc ++ [R]) ∧ atL s (p + 2) rest := by
  obtain ⟨a1, a2, a3, a4, a5, a6, a7⟩ := two_at h hy
  refine ⟨?_, a7⟩
  refine valL_esc a1 a2 (by rw [a3, a5, he]; simp) (R, p + 2) ?_
  rw [a3]
  unfold scanE
  rw [if_pos a4, a5, a6]
  rcases hs with ⟨h1, h2⟩ | ⟨h1, h2, h3⟩
  · rw [if_pos h1, h2]
  · rw [if_neg (by rw [h1]; simp), if_neg h2, h3]
theorem key_piece {s : ByteArray} {p R : Nat} {acc : List Nat} {rest : List UInt8} (h : atL s p (wrK R ++ rest)) (hg : GR R) : keyL s p acc = keyL s (p + (wrK R).length) (acc ++ [R]) ∧ atL s (p + (wrK R).length) rest := by
  unfold wrK at h ⊢
  by_cases h1 : R = 12
  · subst h1; exact key_two (y := 102) h (by decide) 12 (.inl (by decide))
  by_cases h2 : R = 10
  · subst h2; exact key_two (y := 110) h (by decide) 10 (.inl (by decide))
  by_cases h3 : R = 13
  · subst h3; exact key_two (y := 114) h (by decide) 13 (.inl (by decide))
  by_cases h4 : R = 9
  · subst h4; exact key_two (y := 116) h (by decide) 9 (.inl (by decide))
  by_cases h5 : R = 92
  · subst h5; exact key_two (y := 92) h (by decide) 92 (.inr (by decide))
  by_cases h6 : R = 32
  · subst h6; exact key_two (y := 32) h (by decide) 32 (.inl (by decide))
  by_cases h7 : R = 58
  · subst h7; exact key_two (y := 58) h (by decide) 58 (.inl (by decide))
  by_cases h8 : R = 61
  · subst h8; exact key_two (y := 61) h (by decide) 61 (.inl (by decide))
  rw [if_neg h1, if_neg h2, if_neg h3, if_neg h4, if_neg h5, if_neg h6, if_neg h7, if_neg h8] at h ⊢
  obtain ⟨a1, a2, a3, a4⟩ := atR h hg
  have hk : endK R = false := by unfold endK; simp; omega
  rw [← a3]
  refine ⟨?_, a4⟩
  have := keyL_chr (acc := acc) a1 (by rw [a2]; exact h5) (by rw [a2]; exact hk)
  rw [a2] at this
  exact this
theorem val_piece {s : ByteArray} {p R : Nat} {f : Bool} {acc : List Nat} {rest : List UInt8} (h : atL s p (wrV f R ++ rest)) (hg : GR R) : valL s p acc = valL s (p + (wrV f R).length) (acc ++ [R]) ∧ atL s (p + (wrV f R).length) rest := by
  unfold wrV at h ⊢
  by_cases h1 : R = 12
  · subst h1; exact val_two (y := 102) h (by decide) (by decide) 12 (.inl (by decide))
  by_cases h2 : R = 10
  · subst h2; exact val_two (y := 110) h (by decide) (by decide) 10 (.inl (by decide))
  by_cases h3 : R = 13
  · subst h3; exact val_two (y := 114) h (by decide) (by decide) 13 (.inl (by decide))
  by_cases h4 : R = 9
  · subst h4; exact val_two (y := 116) h (by decide) (by decide) 9 (.inl (by decide))
  by_cases h5 : R = 92
  · subst h5; exact val_two (y := 92) h (by decide) (by decide) 92 (.inr (by decide))
  by_cases h6 : f = true ∧ R = 32
  · obtain ⟨rfl, rfl⟩ := h6; exact val_two (y := 32) h (by decide) (by decide) 32 (.inl (by decide))
  rw [if_neg h1, if_neg h2, if_neg h3, if_neg h4, if_neg h5, if_neg h6] at h ⊢
  obtain ⟨a1, a2, a3, a4⟩ := atR h hg
  have hk : eolR R = false := by unfold eolR; simp; omega
  rw [← a3]
  refine ⟨?_, a4⟩
  have := valL_chr (acc := acc) a1 (by rw [a2]; exact h5) (by rw [a2]; exact hk)
  rw [a2] at this
  exact this
theorem key_runs (s : ByteArray) : ∀ (rs : List Nat) (p : Nat) (acc : List Nat) (rest : List UInt8), (∀ R ∈ rs, GR R) → atL s p (keyT rs ++ rest) → keyL s p acc = keyL s (p + (keyT rs).length) (acc ++ rs) ∧ atL s (p + (keyT rs).length) rest := by
  intro rs
  induction rs with
  | nil => intro p acc rest hg h; simpa [keyT] using h
  | cons R rs ih =>
    intro p acc rest hg h
    have e : keyT (R :: rs) = wrK R ++ keyT rs := rfl
    rw [e, List.append_assoc] at h
    obtain ⟨b1, b2⟩ := key_piece (acc := acc) h (hg R List.mem_cons_self)
    obtain ⟨b3, b4⟩ := ih _ (acc ++ [R]) rest (fun x hx => hg x (List.mem_cons_of_mem _ hx)) b2
    rw [e, List.length_append, ← Nat.add_assoc]
    refine ⟨?_, b4⟩
    rw [b1, b3, List.append_assoc]
    rfl
theorem val_runs (s : ByteArray) : ∀ (rs : List Nat) (p : Nat) (acc : List Nat) (rest : List UInt8), (∀ R ∈ rs, GR R) → atL s p ((rs.map (wrV false)).flatten ++ rest) → valL s p acc = valL s (p + ((rs.map (wrV false)).flatten).length) (acc ++ rs) ∧ atL s (p + ((rs.map (wrV false)).flatten).length) rest := by
  intro rs
  induction rs with
  | nil => intro p acc rest hg h; simpa using h
  | cons R rs ih =>
    intro p acc rest hg h
    have e : ((R :: rs).map (wrV false)).flatten = wrV false R ++ (rs.map (wrV false)).flatten := rfl
    rw [e, List.append_assoc] at h
    obtain ⟨b1, b2⟩ := val_piece (acc := acc) h (hg R List.mem_cons_self)
    obtain ⟨b3, b4⟩ := ih _ (acc ++ [R]) rest (fun x hx => hg x (List.mem_cons_of_mem _ hx)) b2
    rw [e, List.length_append, ← Nat.add_assoc]
    refine ⟨?_, b4⟩
    rw [b1, b3, List.append_assoc]
    rfl
theorem val_all (s : ByteArray) (rs : List Nat) (p : Nat) (acc : List Nat) (rest : List UInt8) (hg : ∀ R ∈ rs, GR R) (h : atL s p (valT rs ++ rest)) : valL s p acc = valL s (p + (valT rs).length) (acc ++ rs) ∧ atL s (p + (valT rs).length) rest := by
  cases rs with
  | nil => simpa [valT] using h
  | cons R rs =>
    have e : valT (R :: rs) = wrV true R ++ (rs.map (wrV false)).flatten := rfl
    rw [e, List.append_assoc] at h
    obtain ⟨b1, b2⟩ := val_piece (acc := acc) h (hg R List.mem_cons_self)
    obtain ⟨b3, b4⟩ := val_runs s rs _ (acc ++ [R]) rest (fun x hx => hg x (List.mem_cons_of_mem _ hx)) b2
    rw [e, List.length_append, ← Nat.add_assoc]
    refine ⟨?_, b4⟩
    rw [b1, b3, List.append_assoc]
    rfl
/-- a value's begin is no blank -/
theorem val_skip (s : ByteArray) (rs : List Nat) (p : Nat) (rest : List UInt8) (hg : ∀ R ∈ rs, GR R) (h : atL s p (valT rs ++ 10 :: rest)) : skipW s p = p := by
  have key : ∀ y : UInt8, ∀ r, y = 92 ∨ y = 10 → atL s p (y :: r) → skipW s p = p := fun y r hy h => by
    rcases hy with rfl | rfl
    · exact skip_stop s p 92 r h (by decide) (by decide)
    · exact skip_stop s p 10 r h (by decide) (by decide)
  cases rs with
  | nil => exact key 10 rest (.inr rfl) h
  | cons R rs =>
    have e : valT (R :: rs) = wrV true R ++ (rs.map (wrV false)).flatten := rfl
    rw [e, List.append_assoc] at h
    unfold wrV at h
    by_cases h1 : R = 12
    · rw [if_pos h1] at h; exact key 92 _ (.inl rfl) h
    by_cases h2 : R = 10
    · rw [if_neg h1, if_pos h2] at h; exact key 92 _ (.inl rfl) h
    by_cases h3 : R = 13
    · rw [if_neg h1, if_neg h2, if_pos h3] at h; exact key 92 _ (.inl rfl) h
    by_cases h4 : R = 9
    · rw [if_neg h1, if_neg h2, if_neg h3, if_pos h4] at h; exact key 92 _ (.inl rfl) h
    by_cases h5 : R = 92
    · rw [if_neg h1, if_neg h2, if_neg h3, if_neg h4, if_pos h5] at h; exact key 92 _ (.inl rfl) h
    by_cases h6 : R = 32
    · rw [if_neg h1, if_neg h2, if_neg h3, if_neg h4, if_neg h5, if_pos ⟨rfl, h6⟩] at h; exact key 92 _ (.inl rfl) h
    rw [if_neg h1, if_neg h2, if_neg h3, if_neg h4, if_neg h5, if_neg (fun h => h6 h.2)] at h
    obtain ⟨a1, a2, a3, a4⟩ := atR h (hg R List.mem_cons_self)
    unfold skipW
    rw [dif_pos a1, a2, if_neg]
    unfold wsR
    simp
    omega
def isSep (S : List UInt8) : Prop := S = [32, 61, 32] ∨ S = [61] ∨ S = [58] ∨ S = [32, 58, 32]
theorem isSep_len {S : List UInt8} (h : isSep S) : 1 ≤ S.length := by
  rcases h with rfl | rfl | rfl | rfl <;> decide
theorem skip32 (s : ByteArray) (p : Nat) (r : List UInt8) (h : atL s p (32 :: r)) : skipW s p = skipW s (p + 1) := skip_run s [32] p r (by decide) h
theorem acc_at (s : ByteArray) (p : Nat) (y : UInt8) (r : List UInt8) (h : atL s p (y :: r)) (hy : y = 61 ∨ y = 58) : skipW s p = p ∧ accS s p = p + 1 := by
  rcases hy with rfl | rfl
  · obtain ⟨d1, d2⟩ := atL_dec h (by decide)
    have d1' : rAt s p = 61 := d1
    exact ⟨skip_stop s p 61 r h (by decide) (by decide), by unfold accS; rw [if_pos (atL_lt h), d1', if_pos (by decide), d2]⟩
  · obtain ⟨d1, d2⟩ := atL_dec h (by decide)
    have d1' : rAt s p = 58 := d1
    exact ⟨skip_stop s p 58 r h (by decide) (by decide), by unfold accS; rw [if_pos (atL_lt h), d1', if_pos (by decide), d2]⟩
theorem bval_sep (s : ByteArray) (S : List UInt8) (hS : isSep S) (rs : List Nat) (p : Nat) (rest : List UInt8) (hg : ∀ R ∈ rs, GR R) (h : atL s p (S ++ (valT rs ++ 10 :: rest))) : bvalP s p = p + S.length ∧ endK (rAt s p) = true ∧ rAt s p ≠ 92 ∧ p < s.size := by
  unfold bvalP
  have hv := val_skip s rs _ rest hg (atL_app h)
  have hlt : ∀ y r, atL s p (y :: r) → p < s.size := fun y r h => atL_lt h
  rcases hS with rfl | rfl | rfl | rfl
  · have h1 := atL_next h
    obtain ⟨a1, a2⟩ := acc_at s (p + 1) 61 _ h1 (.inl rfl)
    have h2 := atL_next h1
    have d1 : rAt s p = 32 := (atL_dec h (by decide)).1
    refine ⟨?_, by rw [d1]; decide, by rw [d1]; decide, hlt _ _ h⟩
    rw [skip32 s p _ h, a1, a2, skip32 s _ _ h2]
    exact hv
  · obtain ⟨a1, a2⟩ := acc_at s p 61 _ h (.inl rfl)
    have d1 : rAt s p = 61 := (atL_dec h (by decide)).1
    refine ⟨?_, by rw [d1]; decide, by rw [d1]; decide, hlt _ _ h⟩
    rw [a1, a2]
    exact hv
  · obtain ⟨a1, a2⟩ := acc_at s p 58 _ h (.inr rfl)
    have d1 : rAt s p = 58 := (atL_dec h (by decide)).1
    refine ⟨?_, by rw [d1]; decide, by rw [d1]; decide, hlt _ _ h⟩
    rw [a1, a2]
    exact hv
  · have h1 := atL_next h
    obtain ⟨a1, a2⟩ := acc_at s (p + 1) 58 _ h1 (.inr rfl)
    have h2 := atL_next h1
    have d1 : rAt s p = 32 := (atL_dec h (by decide)).1
    refine ⟨?_, by rw [d1]; decide, by rw [d1]; decide, hlt _ _ h⟩
    rw [skip32 s p _ h, a1, a2, skip32 s _ _ h2]
    exact hv
/-- from 'before' at p the items 'l', and then 'before' at q -/
def LexTo (s : ByteArray) (p : Nat) (l : List LI) (q : Nat) : Prop := ∀ m, muN s .before p < m → ∃ m', muN s .before q < m' ∧ lexN s m .before p = l ++ lexN s m' .before q
theorem LexTo.refl (s : ByteArray) (p : Nat) : LexTo s p [] p := fun m hm => ⟨m, hm, rfl⟩
theorem LexTo.trans {s : ByteArray} {p q r : Nat} {l k : List LI} (h : LexTo s p l q) (g : LexTo s q k r) : LexTo s p (l ++ k) r := fun m hm => by
  obtain ⟨m1, h1, e1⟩ := h m hm
  obtain ⟨m2, h2, e2⟩ := g m1 h1
  exact ⟨m2, h2, by rw [e1, e2, List.append_assoc]⟩
theorem lexTo_nl (s : ByteArray) (p : Nat) (r : List UInt8) (h : atL s p (10 :: r)) : LexTo s p [] (p + 1) := fun m hm => by
  have hlt := atL_lt h
  unfold muN phN at hm
  obtain ⟨k, rfl⟩ : ∃ k, m = k + 1 := ⟨m - 1, by omega⟩
  exact ⟨k, by unfold muN phN; omega, lex_ws s k p 10 r h (.inr rfl)⟩
theorem lexTo_end (s : ByteArray) (p q : Nat) (l : List LI) (h : LexTo s p l q) (hq : atL s q []) (m : Nat) (hm : muN s .before p < m) : lexN s m .before p = l ++ [⟨1, q, emptyB⟩] := by
  obtain ⟨m1, h1, e1⟩ := h m hm
  obtain ⟨k, rfl⟩ : ∃ k, m1 = k + 1 := ⟨m1 - 1, by omega⟩
  rw [e1, lex_end s k q hq]
/-- a key and its value -/
theorem lexTo_kv (s : ByteArray) (p : Nat) (ks vs : List Nat) (S rest : List UInt8) (hS : isSep S) (hk : ks ≠ []) (hgk : ∀ R ∈ ks, GR R) (hgv : ∀ R ∈ vs, GR R) (h35 : ∀ R, ks.head? = some R → R ≠ 35 ∧ R ≠ 33)
    (h : atL s p (keyT ks ++ (S ++ (valT vs ++ 10 :: rest)))) : ∃ P, LexTo s p [⟨2, p, textOf ks⟩, ⟨3, P, textOf vs⟩] (p + (keyT ks).length + S.length + (valT vs).length + 1) ∧ atL s (p + (keyT ks).length + S.length + (valT vs).length + 1) rest := by
  obtain ⟨b1, b2⟩ := key_runs s ks p [] _ hgk h
  obtain ⟨c1, c2, c3, c4⟩ := bval_sep s S hS vs _ rest hgv b2
  have b3 := atL_app b2
  obtain ⟨d1, d2⟩ := val_all s vs _ [] (10 :: rest) hgv b3
  have hkey : keyL s p [] = .ok (ks, p + (keyT ks).length, false) := by
    rw [b1]
    exact keyL_end c4 c3 c2
  have hval : valL s (p + (keyT ks).length + S.length) [] = .ok (vs, p + (keyT ks).length + S.length + (valT vs).length + 1, false) := by
    rw [d1]
    exact val_stop s _ _ rest d2
  refine ⟨p + (keyT ks).length + S.length, fun m hm => ?_, atL_next d2⟩
  have hfirst : p < s.size ∧ eolR (rAt s p) = false ∧ ¬ (rAt s p = 35 ∨ rAt s p = 33) ∧ wsR (rAt s p) = false := by
    obtain ⟨R, ks', rfl⟩ := List.exists_cons_of_ne_nil hk
    have hR := h35 R rfl
    have e : keyT (R :: ks') = wrK R ++ keyT ks' := rfl
    rw [e, List.append_assoc] at h
    have key92 : ∀ r, atL s p (92 :: r) → p < s.size ∧ eolR (rAt s p) = false ∧ ¬ (rAt s p = 35 ∨ rAt s p = 33) ∧ wsR (rAt s p) = false := fun r h => by
      have d1 : rAt s p = 92 := (atL_dec h (by decide)).1
      rw [d1]
      exact ⟨atL_lt h, by decide, by decide, by decide⟩
    unfold wrK at h
    by_cases h1 : R = 12
    · rw [if_pos h1] at h; exact key92 _ h
    by_cases h2 : R = 10
    · rw [if_neg h1, if_pos h2] at h; exact key92 _ h
    by_cases h3 : R = 13
    · rw [if_neg h1, if_neg h2, if_pos h3] at h; exact key92 _ h
    by_cases h4 : R = 9
    · rw [if_neg h1, if_neg h2, if_neg h3, if_pos h4] at h; exact key92 _ h
    by_cases h5 : R = 92
    · rw [if_neg h1, if_neg h2, if_neg h3, if_neg h4, if_pos h5] at h; exact key92 _ h
    by_cases h6 : R = 32
    · rw [if_neg h1, if_neg h2, if_neg h3, if_neg h4, if_neg h5, if_pos h6] at h; exact key92 _ h
    by_cases h7 : R = 58
    · rw [if_neg h1, if_neg h2, if_neg h3, if_neg h4, if_neg h5, if_neg h6, if_pos h7] at h; exact key92 _ h
    by_cases h8 : R = 61
    · rw [if_neg h1, if_neg h2, if_neg h3, if_neg h4, if_neg h5, if_neg h6, if_neg h7, if_pos h8] at h; exact key92 _ h
    rw [if_neg h1, if_neg h2, if_neg h3, if_neg h4, if_neg h5, if_neg h6, if_neg h7, if_neg h8] at h
    obtain ⟨a1, a2, a3, a4⟩ := atR h (hgk R List.mem_cons_self)
    rw [a2]
    refine ⟨a1, ?_, by omega, ?_⟩
    · unfold eolR; simp; omega
    · unfold wsR; simp; omega
  obtain ⟨f1, f2, f3, f4⟩ := hfirst
  have hmu : muN s .before p = 4 * (s.size - p) + 3 := rfl
  have hq : p + (keyT ks).length + S.length + (valT vs).length + 1 ≤ s.size := by
    have := (valL_bd s (p + (keyT ks).length + S.length) [] (by
      have := (bvalP_bd s (p + (keyT ks).length) (by omega)).2
      rw [c1] at this
      exact this) _ hval).2.1
    exact this
  obtain ⟨k, rfl⟩ : ∃ k, m = k + 4 := ⟨m - 4, by omega⟩
  refine ⟨k, by show 4 * (s.size - _) + 3 < _; have hs3 := isSep_len hS; omega, ?_⟩
  have h1 : lexN s (k + 4) .before p = lexN s (k + 3) .key p := by
    conv => lhs; unfold lexN lexS
    dsimp only
    simp only [if_pos f1]
    simp [f2, f3, f4]
  have h2 : lexN s (k + 3) .key p = ⟨2, p, textOf ks⟩ :: lexN s (k + 2) .bval (p + (keyT ks).length) := by
    conv => lhs; unfold lexN lexS
    simp [hkey, hk]
  have h3 : lexN s (k + 2) .bval (p + (keyT ks).length) = lexN s (k + 1) .val (p + (keyT ks).length + S.length) := by
    conv => lhs; unfold lexN lexS
    simp [c1]
  have h4 : lexN s (k + 1) .val (p + (keyT ks).length + S.length) = ⟨3, p + (keyT ks).length + S.length, textOf vs⟩ :: lexN s k .before (p + (keyT ks).length + S.length + (valT vs).length + 1) := by
    conv => lhs; unfold lexN lexS
    simp [hval]
  rw [h1, h2, h3, h4]
  rfl
theorem com_runs (s : ByteArray) : ∀ (rs : List Nat) (p : Nat) (acc : List Nat) (rest : List UInt8), (∀ R ∈ rs, GR R ∧ eolR R = false) → atL s p ((rs.map fun (R : Nat) => Lib.encodeRune (R : Int)).flatten ++ 10 :: rest) → comL s p acc = (acc ++ rs, p + ((rs.map fun (R : Nat) => Lib.encodeRune (R : Int)).flatten).length + 1, false) ∧ atL s (p + ((rs.map fun (R : Nat) => Lib.encodeRune (R : Int)).flatten).length + 1) rest := by
  intro rs
  induction rs with
  | nil =>
    intro p acc rest hg h
    have h' : atL s p (10 :: rest) := h
    have d1 : rAt s p = 10 := (atL_dec h' (by decide)).1
    have d2 : kAt s p = 1 := (atL_dec h' (by decide)).2
    refine ⟨?_, atL_next h'⟩
    rw [comL, dif_pos (atL_lt h'), d1, if_pos (by decide), d2]
    simp
  | cons R rs ih =>
    intro p acc rest hg h
    have e : ((R :: rs).map fun (R : Nat) => Lib.encodeRune (R : Int)).flatten = Lib.encodeRune (R : Int) ++ (rs.map fun (R : Nat) => Lib.encodeRune (R : Int)).flatten := rfl
    rw [e, List.append_assoc] at h
    obtain ⟨hR, hE⟩ := hg R List.mem_cons_self
    obtain ⟨a1, a2, a3, a4⟩ := atR h hR
    rw [a3] at a4
    obtain ⟨b3, b4⟩ := ih _ (acc ++ [R]) rest (fun x hx => hg x (List.mem_cons_of_mem _ hx)) a4
    rw [e, List.length_append, ← Nat.add_assoc]
    refine ⟨?_, b4⟩
    rw [comL, dif_pos a1, a2, if_neg (by rw [hE]; simp), a3, b3, List.append_assoc]
    rfl
/-- a comment -/
theorem lexTo_com (s : ByteArray) (p : Nat) (cs : List Nat) (rest : List UInt8) (hc : cs ≠ []) (hg : ∀ R ∈ cs, GR R ∧ eolR R = false) (hw : ∀ R, cs.head? = some R → wsR R = false)
    (h : atL s p (35 :: 32 :: ((cs.map fun (R : Nat) => Lib.encodeRune (R : Int)).flatten ++ 10 :: rest))) : LexTo s p [⟨4, p + 2, textOf cs⟩] (p + 2 + ((cs.map fun (R : Nat) => Lib.encodeRune (R : Int)).flatten).length + 1) ∧ atL s (p + 2 + ((cs.map fun (R : Nat) => Lib.encodeRune (R : Int)).flatten).length + 1) rest := by
  have h1 := atL_next h
  have h2 := atL_next h1
  obtain ⟨b1, b2⟩ := com_runs s cs (p + 2) [] rest hg h2
  have hsk : skipW s (p + 1) = p + 2 := by
    rw [skip32 s _ _ h1]
    obtain ⟨R, cs', rfl⟩ := List.exists_cons_of_ne_nil hc
    have e : ((R :: cs').map fun (R : Nat) => Lib.encodeRune (R : Int)).flatten = Lib.encodeRune (R : Int) ++ (cs'.map fun (R : Nat) => Lib.encodeRune (R : Int)).flatten := rfl
    rw [e, List.append_assoc] at h2
    obtain ⟨a1, a2, a3, a4⟩ := atR h2 (hg R List.mem_cons_self).1
    unfold skipW
    rw [dif_pos a1, a2, if_neg (by rw [hw R rfl]; simp)]
  refine ⟨fun m hm => ?_, b2⟩
  have hmu : muN s .before p = 4 * (s.size - p) + 3 := rfl
  have d1 : rAt s p = 35 := (atL_dec h (by decide)).1
  have d2 : kAt s p = 1 := (atL_dec h (by decide)).2
  have hlt := atL_lt h
  have hlt1 := atL_lt h1
  have hq := (comL_bd s (p + 2) [] (by omega)).2.1
  rw [b1] at hq
  dsimp only at hq
  obtain ⟨k, rfl⟩ : ∃ k, m = k + 2 := ⟨m - 2, by omega⟩
  refine ⟨k, by show 4 * (s.size - _) + 3 < _; omega, ?_⟩
  have g1 : lexN s (k + 2) .before p = lexN s (k + 1) .comment (p + 1) := by
    conv => lhs; unfold lexN lexS
    dsimp only
    simp only [if_pos hlt, d1, d2]
    simp [eolR]
  have g2 : lexN s (k + 1) .comment (p + 1) = ⟨4, p + 2, textOf cs⟩ :: lexN s k .before (p + 2 + ((cs.map fun (R : Nat) => Lib.encodeRune (R : Int)).flatten).length + 1) := by
    conv => lhs; unfold lexN lexS
    simp [hsk, b1]
  rw [g1, g2]
  rfl
end Go.Proofs.YtgmhigjhooihdaaGreatDoor

set_option linter.unusedVariables false
namespace Go.Proofs.YtgmhigjhooihdaaGreatDoor
open Go.RowKit Plain Go.Maps

theorem zeroRow (w : World) : (zeroValue 32).run Tryz.prog w = .ok (.slice none 0 0) w := by kernel_rfl
set_option maxRecDepth 100000 in
theorem comGet_any (pb mc nc : Nat) (DC : DataW Value) (k : ByteArray) (w : World) (c4 : w.cell? ⟨pb, 4, none⟩ = some (.map (some mc))) (hm : MpC w mc nc DC) (hk : k.size ≤ 2147483647) :
    Calls Tryz.prog 32 #[.pointer (some ⟨pb, 0, none⟩), .string k] w fun e w' => (∃ v, e = .returned v ∧ (Maps.has DC (keyL8 k) = true → DC.atKey (keyL8 k) (.held (.slice none 0 0)) = .held v) ∧ (Maps.has DC (keyL8 k) = false → v = .slice none 0 0)) ∧ w' = w := by
  have HM := Lib.hid hm
  have hkm : k.size ≤ maxLen := by unfold maxLen; omega
  obtain ⟨hb, hhb⟩ : ∃ hb, Maps.has DC (.string k.data.toList) = hb := ⟨_, rfl⟩
  have HHB : Hid (Maps.has DC (keyL8 k) = hb) := Lib.hid hhb
  clear hm
  cases hb
  · go_enter Tryz.func32, Tryz.ntmps32
    go_wp2_with (at_lookup; refine wpList_lookup_own_ok _ rfl _ _ 63 rfl 9 32 lawS Tryz.underlying63 rawR (zeroRow _) (.held (.slice none 0 0)) [] rfl mc nc DC rfl HM.out _ _ rfl (WideMaps.keyOf_string_mk Tryz.underlying9 hkm) ?_; intro v0 ps0 hv0; rw [hhb]; clear hv0)
    go_ret
    exact ⟨⟨_, rfl, (fun h => by rw [HHB.out] at h; cases h), fun _ => rfl⟩, rfl⟩
  · go_enter Tryz.func32, Tryz.ntmps32
    go_wp2_with (at_lookup; refine wpList_lookup_own_ok _ rfl _ _ 63 rfl 9 32 lawS Tryz.underlying63 rawR (zeroRow _) (.held (.slice none 0 0)) [] rfl mc nc DC rfl HM.out _ _ rfl (WideMaps.keyOf_string_mk Tryz.underlying9 hkm) ?_; intro v0 ps0 hv0; rw [hhb]; have HV0 := Lib.hid hv0; clear hv0)
    go_ret
    exact ⟨⟨v0, rfl, fun _ => by
      have h := HV0.out
      unfold rawR at h
      injection h with h
      injection h with h1 h2
      exact h1.symm, (fun h => by rw [HHB.out] at h; cases h)⟩, rfl⟩
end Go.Proofs.YtgmhigjhooihdaaGreatDoor

set_option linter.unusedVariables false
namespace Go.Proofs.YtgmhigjhooihdaaGreatDoor
open Go.RowKit Plain Go.Maps

theorem key_cell {w w1 : World} {a : Addr} {v : Value} (hg : w.grownBy w1 none) (h : w.cell? a = some v) : w1.cell? a = some v := by
  have hb := hg.block a.block (Lib.lt_of_cell h) (by simp)
  unfold World.cell? at h ⊢
  rw [hb]
  exact h
theorem row_cur {w : World} {B g n cp : Nat} {xs : List Value} (h : w.ownsRow B 9 1 (.slice (some ⟨g, 0, none⟩) n cp) n xs) : ∃ cur : Array Value, w.heap[g]? = some (.cells cur 9 (0, 0)) ∧ cur.size = cp := by
  rcases h.2 with ⟨hv, _⟩ | ⟨g', cap, cur, hv, q1, q2, q3, q4, q5, q6⟩
  · cases hv
  · injection hv with hv1 hv2 hv3
    injection hv1 with hv1
    injection hv1 with hv1
    subst hv1
    subst hv3
    exact ⟨cur, q2, by simpa using q5⟩
theorem row_src {w w1 : World} {B g n cp : Nat} {xs : List Value} (h : w.ownsRow B 9 1 (.slice (some ⟨g, 0, none⟩) n cp) n xs) (hg : w.grownBy w1 none) : ∀ j v, xs[j]? = some v → w1.cell? ((⟨g, 0, none⟩ : Addr).add j) = some v := by
  intro j v hv
  have hr := row_keep h (fun k hk => hg.block k (row_lt h hk).2 (by simp))
  have hj : j < n * 1 := by
    rcases h.2 with ⟨hv', _⟩ | ⟨g', cap, cur, hv', q1, q2, q3, q4, q5, q6⟩
    · cases hv'
    · have h9 := (List.getElem?_eq_some_iff.1 hv).1
      rw [← q6, List.length_take] at h9
      omega
  rw [add_at, Nat.zero_add, hr.cellAt j hj]
  exact hv
def KeysPost (n : Nat) (xs : List Value) (w : World) (e : Ending) (w' : World) : Prop := ∃ G, e = .returned (.slice (some ⟨G, 0, none⟩) n n) ∧ w'.ownsRow w.heap.size 9 1 (.slice (some ⟨G, 0, none⟩) n n) n xs ∧ Below w.heap.size w w'
set_option maxRecDepth 100000 in
theorem keys_any (B pb g cp n : Nat) (xs : List Value) (w : World) (c5 : w.cell? ⟨pb, 5, none⟩ = some (.slice (some ⟨g, 0, none⟩) n cp)) (h : w.ownsRow B 9 1 (.slice (some ⟨g, 0, none⟩) n cp) n xs) (hn : n ≤ 10000000) (h1 : ∀ v ∈ xs, v.oneCell' = true) :
    Calls Tryz.prog 31 #[.pointer (some ⟨pb, 0, none⟩)] w (KeysPost n xs w) := by
  unfold KeysPost
  obtain ⟨i0, hi, hz0, hz1, hz2⟩ := info_parts infoStr
  have HR := Lib.hid h
  have H1 := Lib.hid h1
  have HC5 := Lib.hid c5
  have hlt := (row_lt h rfl).2
  have hpl := Lib.lt_of_cell c5
  have hxl : xs.length = n := by
    rcases h.2 with ⟨hv, _⟩ | ⟨g', cap, cur, hv, q1, q2, q3, q4, q5, q6⟩
    · cases hv
    · have := congrArg List.length q6
      rw [List.length_take] at this
      simp at q5 this
      omega
  have HXL := Lib.hid hxl
  have hsz1 : (Tryz.prog.info? 9).map (·.size) = some 1 := by rw [hi]; simp [hz1]
  have HS1 := Lib.hid hsz1
  clear h h1 hxl hsz1
  go_enter Tryz.func31, Tryz.ntmps31
  go_wp2_with (first | (at_make; refine wpList_make_full _ rfl _ _ 32 rfl w.heap.size 9 i0 (.string ⟨#[]⟩) 1 Tryz.underlying32 hi hz0 hz1 .i64 .i64 _ _ n rfl rfl rfl rfl (by rw [hz2]; omega) (by unfold maxLen; omega) (Nat.le_refl _) ?_; intro w1 how hgw; have d5 := key_cell hgw c5; obtain ⟨cur, hcur, hcs⟩ := row_cur how; have HGW := Lib.hid hgw; have HCUR := Lib.hid hcur; have HCS := Lib.hid hcs; have hcp := run_copy_row (P := Tryz.prog) w1 32 32 3 9 w.heap.size 0 n n ⟨g, 0, none⟩ n cp cur 9 xs Tryz.underlying32 HS1.out HCUR.out (by rw [HXL.out]; simp) (row_src HR.out HGW.out) (by rw [HXL.out, HCS.out]; omega) H1.out; clear how hgw hcur hcs c5))
  go_ret
  refine ⟨w.heap.size, rfl, ⟨by have := HXL.out; omega, .inr ⟨w.heap.size, n, xs.toArray, rfl, Nat.le_refl _, ?_, Nat.le_refl _, by unfold maxLen; omega, by simp [HXL.out], by simp; exact List.take_of_length_le (by have := HXL.out; omega)⟩⟩, below_setRow ((Below.refl _ w).grown HGW.out (Nat.le_refl _) (fun g hg => by cases hg)) (Nat.le_refl _) _⟩
  rw [setRow_heap _ _ cur _ _ _ HCUR.out]
  congr 2
  apply Array.toList_inj.1
  simp [HXL.out, List.drop_eq_nil_of_le, HCS.out]
end Go.Proofs.YtgmhigjhooihdaaGreatDoor

set_option linter.unusedVariables false
namespace Go.Proofs.YtgmhigjhooihdaaGreatDoor
open Go.RowKit Plain Go.Maps

theorem keyL8_k (k : ByteArray) : WideAt.IsKeyLit (keyL8 k) := by unfold keyL8; trivial
theorem str_key_inv {key : Value} {kl : Lit} (h : keyOf Tryz.prog 9 key = some kl) : ∃ s : ByteArray, key = .string s ∧ kl = .string s.data.toList ∧ s.size ≤ maxLen := by
  have hk := Tryz.underlying9
  cases key <;> simp [keyOf, hk, mapKey] at h
  exact ⟨_, rfl, h.2.symm, h.1⟩
/-- the step of a range over a map of texts by texts -/
theorem next_ss (w : World) {ops : Array Oper} {rest : List Oper} {o : Oper} {a : Act} {Q : Exit → Act → World → Prop}
    (hg : o.guard = none) (it : Operand) (hop : o.op = Op.next it false)
    (b r n : Nat) (D : DataW Unit) (left : Lit → Bool) (cnt : Nat) (hit : a.eval it = .pointer (some ⟨r, 0, none⟩)) (h : w.ranges Tryz.prog 9 (plainElem Tryz.prog 9) b r n D left cnt)
    (hDone : cnt = 0 → (∀ kl, left kl = false) → wpList Tryz.prog ops Q rest (a.put o.dst (.tuple #[.bool false])) w)
    (hMore : ∀ (x c : ByteArray) (w' : World) (cnt' : Nat), x.size ≤ maxLen → c.size ≤ maxLen → left (keyL8 x) = true → (∀ zd, D.atKey (keyL8 x) zd = .lit (.string c.data.toList)) → w'.ranges Tryz.prog 9 (plainElem Tryz.prog 9) b r n D (fun z => left z && !z.sameKey (keyL8 x)) cnt' → cnt' < cnt →
      w.grownBy w' (some r) → w'.heap.size = w.heap.size → (Instr.entry (.pointer (some ⟨r, 0, none⟩))).run Tryz.prog w' = .ok (.tuple #[.string x, .string c]) w' → wpList Tryz.prog ops Q rest (a.put o.dst (.tuple #[.bool true, .string x, .string c])) w') :
    wpList Tryz.prog ops Q (o :: rest) a w :=
  wpList_next_ranges w hg it hop 9 lawS (plainElem Tryz.prog 9) Value.string Value.string (fun key kl hkey => by obtain ⟨x, rfl, _⟩ := str_key_inv hkey; exact ⟨x, rfl⟩) (fun v y hv => by obtain ⟨c, rfl, _⟩ := plainElem_string_inv Tryz.underlying9 hv; exact ⟨c, rfl⟩)
    b r n D left cnt hit h hDone (fun x c kl y w' cnt' hkey hlk hv hat hrg hlt hgr hsz hen => by
      obtain ⟨x', ex, rfl, hwx⟩ := str_key_inv hkey
      cases ex
      obtain ⟨c', ec, rfl, hwc⟩ := plainElem_string_inv Tryz.underlying9 hv
      cases ec
      exact hMore x c w' cnt' hwx hwc hlk hat hrg hlt hgr hsz hen)
/-- 'm[k]' at texts by texts -/
theorem look_ss (w : World) {ops : Array Oper} {rest : List Oper} {o : Oper} {a : Act} {Q : Exit → Act → World → Prop}
    (hg : o.guard = none) (m x : Operand) (hop : o.op = Op.lookup 62 m x false) (b n : Nat) (D : DataW Unit)
    (hm : a.eval m = .map (some b)) (hown : MpS w b n D) (k : ByteArray) (hx : a.eval x = .string k) (hk : k.size ≤ maxLen)
    (hK : ∀ c : ByteArray, D.atKey (keyL8 k) (.lit (.string [])) = .lit (.string c.data.toList) → wpList Tryz.prog ops Q rest (a.put o.dst (.string c)) w) :
    wpList Tryz.prog ops Q (o :: rest) a w := by
  refine wpList_plain hg fun K' hK' => ?_
  obtain ⟨v, ps, hrun, hv⟩ := hown.lookup (t := 62) (e := 9) lawS Tryz.underlying62 (zeroS w) (plainElem_string (H := Unit) Tryz.underlying9 (by unfold maxLen; decide)) (WideMaps.keyOf_string_mk Tryz.underlying9 hk)
  obtain ⟨c, rfl, hz, hs⟩ := plainElem_string_inv Tryz.underlying9 hv
  unfold Oper.wp
  simp [execOp, hop, hm, hx, hrun, Result.andThen]
  exact hK' _ _ (hK c (congrArg Prod.fst hz))
theorem size_le_own {w : World} {mb n : Nat} {D : DataW Unit} (h : MpS w mb n D) : Maps.size D ≤ n := h.size_le
def MapPost (D : DataW Unit) (w : World) (e : Ending) (w' : World) : Prop := ∃ M, e = .returned (.map (some M)) ∧ w.heap.size ≤ M ∧ MpS w' M (Maps.size D) D ∧ Below w.heap.size w w'
set_option maxHeartbeats 2000000 in
set_option maxRecDepth 100000 in
theorem map_any (pb mb n : Nat) (D : DataW Unit) (w : World) (c3 : w.cell? ⟨pb, 3, none⟩ = some (.map (some mb))) (hm : MpS w mb n D) (hn : n ≤ 10000000) :
    Calls Tryz.prog 30 #[.pointer (some ⟨pb, 0, none⟩)] w (MapPost D w) := by
  unfold MapPost
  have hmm := @run_makeMap Tryz.prog
  have hbl := hm.lt
  have hpl := Lib.lt_of_cell c3
  have e1 : (w.alloc (.map #[] 0)).heap.size = w.heap.size + 1 := by simp
  have hmax : Maps.size D ≤ 10000000 := Nat.le_trans (size_le_own hm) hn
  have HM := Lib.hid hm
  go_enter Tryz.func30, Tryz.ntmps30
  go_wp2_with (first
    | (at_range; refine wpList_range_own _ rfl _ 62 rfl 9 9 lawS Tryz.underlying62 _ mb n _ rfl (HM.out.alloc _) ?_; intro w0 hrg0 hg0 hs0))
  (try rw [e1] at hrg0)
  (try rw [e1] at hs0)
  have HRG0 := Lib.hid hrg0
  have HS0 := Lib.hid hs0
  have HG0 := Lib.hid hg0
  have HSZ := Lib.hid (size_le_own hm)
  clear hrg0 hs0 hg0 hm c3
  go_loopw [4] (fun _ wr => ∃ (left : Lit → Bool) (cnt : Nat) (Dout : DataW Unit), Hid (wr.ranges Tryz.prog 9 (plainElem Tryz.prog 9) mb (w.heap.size + 1) n D left cnt) ∧ cnt ≤ Maps.size D ∧
      Hid (MpS wr w.heap.size (Maps.size D - cnt) Dout) ∧ Hid (Agree Dout D left) ∧ Hid (Below w.heap.size w wr))
    (fun _ wr => wr.rangeLeft mb (w.heap.size + 1))
  case atStart =>
    exact ⟨_, _, .map [], HRG0, Nat.le_refl _, Lib.hid (((World.ownsMap_made _ _ _ _).kept HG0.out (by simp)).mono (Nat.zero_le _)), Lib.hid (agree_start D), Lib.hid (((Below.refl _ _).alloc (Nat.le_refl _) _).grown HG0.out (by simp) (fun j hj => by cases hj))⟩
  case round =>
    obtain ⟨left, cnt, Dout, HRG, hcs, HOUT, HA, HNX⟩ := hrel
    go_wp2_with (first
      | (at_next; refine next_ss _ rfl _ rfl mb (w.heap.size + 1) n _ _ _ rfl HRG.out ?_ ?_))
    · intro hc0 hl0
      go_wp2
      go_ret
      subst hc0
      have e := agree_end HA.out hl0 (HOUT.out.canon lawS) (HRG.out.owns.canon lawS)
      subst e
      exact ⟨w.heap.size, rfl, Nat.le_refl _, by simpa using HOUT.out, HNX.out⟩
    · intro x c w1 cnt1 hwx hwc hlx hat hrg1 hlt hg1 hs1 hen
      have HOUT1 := Lib.hid (HOUT.out.kept hg1 (by simp))
      have HAT := Lib.hid hat
      have HRG1 := Lib.hid hrg1
      have HG1 := Lib.hid hg1
      have HLX := Lib.hid hlx
      clear hat hrg1 hg1 hlx
      go_wp2_with (first
        | (at_mapUpdate; refine wpList_mapUpdate_own _ rfl _ _ _ 62 rfl 9 9 lawS Tryz.underlying62 (plainElem Tryz.prog 9) w.heap.size _ _ rfl HOUT1.out (by unfold maxLen; omega) _ _ _ rfl rfl (WideMaps.keyOf_string_mk Tryz.underlying9 hwx) _ [] (plainElem_string Tryz.underlying9 hwc) ?_; intro w2 hout2 hg2; go_frame))
      have hrg2 := HRG1.out.kept hg2 (fun e => by have := Option.some.inj e; omega) (fun e => by have := Option.some.inj e; omega)
      have HRG2 := Lib.hid hrg2
      have HOUT2 : Hid (MpS w2 w.heap.size (Maps.size D - cnt1) _) := Lib.hid (hout2.mono (by omega))
      have HB2 : Hid (Below w.heap.size w w2) := Lib.hid ((HNX.out.grown HG1.out HNX.out.size (fun j hj => by cases hj; exact Nat.le_succ _)).grown hg2 (by have := HNX.out.size; omega) (fun j hj => by cases hj; exact Nat.le_refl _))
      have HA2 := Lib.hid (agree_step HA.out HOUT.out.isMap (keyL8_k x) HAT.out)
      clear hrg2 hout2 hg2 hen
      go_roundw
      case rel =>
        exact ⟨_, cnt1, _, HRG2, by omega, HOUT2, HA2, HB2⟩
      case measure => rw [HRG2.out.left_eq, HRG.out.left_eq]; exact hlt
end Go.Proofs.YtgmhigjhooihdaaGreatDoor

set_option linter.unusedVariables false
namespace Go.Proofs.YtgmhigjhooihdaaGreatDoor
open Go.RowKit Plain Go.Maps

/-- properties at 'pb', expanded or not -/
structure LP (B pb mb mc n nc : Nat) (p : PSt) (DC : DataW Value) (lv : Value) (dis : Bool) (w : World) : Prop where
  blk : w.heap[pb]? = some (.cells #[.string ⟨#[36, 123]⟩, .string ⟨#[125]⟩, .bool dis, .map (some mb), .map (some mc), lv, .string ⟨#[]⟩] 65 (0, 0))
  mp : MpS w mb n p.D
  cp : MpC w mc nc DC
  row : w.ownsRow B 9 1 lv p.ks.length (p.ks.map Value.string)
  cr : CRel B DC p.cf lv (.slice none 0 0) w
  lo : B ≤ pb ∧ B ≤ mb ∧ B ≤ mc
theorem LP.below {B pb mb mc n nc : Nat} {p : PSt} {DC : DataW Value} {lv : Value} {dis : Bool} {w w' : World} (h : LP B pb mb mc n nc p DC lv dis w) (hb : Below w.heap.size w w') : LP B pb mb mc n nc p DC lv dis w' :=
  ⟨(hb.block pb (lt_of_block h.blk)).trans h.blk, mp_keep h.mp (hb.block mb (map_lt (mp_is h.mp))), mpc_keep h.cp (hb.block mc (map_lt (mpc_is h.cp))), row_keep h.row (fun g hg => hb.block g (row_lt h.row hg).2), h.cr.keep (fun g cs hg _ _ => hb.block g (lt_of_block hg)) (.inl rfl) (.inl rfl), h.lo⟩
theorem LP.of {B pb mb mc n nc : Nat} {p : PSt} {DC : DataW Value} {lv : Value} {w : World} (dis : Bool) (h : PQ B pb mb mc n nc p DC lv w) (hc : CRel B DC p.cf lv (.slice none 0 0) w) : LP B pb mb mc n nc p DC lv dis (w.setCell ⟨pb, 2, none⟩ (.bool dis)) := by
  have hkp : ∀ j, j ≠ pb → (w.setCell ⟨pb, 2, none⟩ (.bool dis)).heap[j]? = w.heap[j]? := fun j hj => Below.heap_setCell _ _ _ _ hj
  have hne : ∀ {k : Nat} {c : Array Value}, w.heap[k]? = some (.cells c 9 (0, 0)) → k ≠ pb := fun h1 e => by
    subst e
    rw [h.blk] at h1
    injection h1 with h1
    injection h1 with _ h1
    exact absurd h1 (by decide)
  refine ⟨seven_set h.blk 2, mp_keep h.mp (hkp mb (fun e => by obtain ⟨es, c, h1⟩ := mp_is h.mp; rw [e, h.blk] at h1; cases h1)), mpc_keep h.cp (hkp mc (fun e => by obtain ⟨es, c, h1⟩ := mpc_is h.cp; rw [e, h.blk] at h1; cases h1)), row_keep h.row (fun g hg => by obtain ⟨cs, h1⟩ := row_cells h.row hg; exact hkp g (hne h1)), hc.keep (fun g cs h1 _ _ => hkp g (hne h1)) (.inl rfl) (.inl rfl), h.lo.1, h.lo.2.1, h.lo.2.2.1⟩
set_option maxRecDepth 100000 in
/-- a look-up in properties that are not expanded -/
theorem getL_any (B pb mb mc n nc : Nat) (p : PSt) (DC : DataW Value) (lv : Value) (k : ByteArray) (w : World) (h : LP B pb mb mc n nc p DC lv true w) (hk : k.size ≤ 2147483647) :
    Calls Tryz.prog 52 #[.pointer (some ⟨pb, 0, none⟩), .string k] w fun e w' => e = .returned (.tuple #[.string (rawOf p.D k), .bool (Maps.has p.D (keyL8 k))]) ∧ w' = w := by
  obtain ⟨c2, c3, _⟩ := seven_cells h.blk
  have HM := Lib.hid h.mp
  have hkm : k.size ≤ maxLen := by unfold maxLen; omega
  clear h
  go_enter Tryz.func52, Tryz.ntmps52
  go_wp2_with (at_lookup; refine wpList_lookup_own_ok _ rfl _ _ 62 rfl 9 9 lawS Tryz.underlying62 (plainElem Tryz.prog 9) (zeroS _) (.lit (.string [])) [] (plainElem_string Tryz.underlying9 (by unfold maxLen; decide)) mb n p.D rfl HM.out _ _ rfl (WideMaps.keyOf_string_mk Tryz.underlying9 hkm) ?_)
  intro v ps hv
  obtain ⟨s, rfl, hz, hs⟩ := plainElem_string_inv Tryz.underlying9 hv
  have HZ := Lib.hid (congrArg Prod.fst hz)
  clear hv hz
  generalize hg : Maps.has p.D (.string k.data.toList) = hb
  have HG := Lib.hid hg
  clear hg
  go_wp2
  go_ret2
  have e1 : rawOf p.D k = s := rawOf_of HZ.out
  have e2 : Maps.has p.D (keyL8 k) = hb := HG.out
  rw [e1, e2]
  exact ⟨rfl, rfl⟩
set_option maxRecDepth 100000 in
/-- the keys, whatever their slice -/
theorem keysN_any (B pb n : Nat) (lv : Value) (xs : List Value) (w : World) (c5 : w.cell? ⟨pb, 5, none⟩ = some lv) (h : w.ownsRow B 9 1 lv n xs) (hn : n ≤ 10000000) (h1 : ∀ v ∈ xs, v.oneCell' = true) :
    Calls Tryz.prog 31 #[.pointer (some ⟨pb, 0, none⟩)] w (KeysPost n xs w) := by
  rcases h.2 with ⟨rfl, rfl⟩ | ⟨g, cap, cur, rfl, _⟩
  · obtain rfl : xs = [] := List.eq_nil_of_length_eq_zero (by simpa using h.1)
    unfold KeysPost
    obtain ⟨i0, hi, hz0, hz1, hz2⟩ := info_parts infoStr
    have hsz1 : ((Tryz.prog.info? 9).map (·.size)).isSome = true := by rw [hi]; rfl
    have HS1 := Lib.hid hsz1
    have hpl := Lib.lt_of_cell c5
    clear h h1 hsz1
    go_enter Tryz.func31, Tryz.ntmps31
    go_wp2_with (first | (at_make; refine wpList_make_full _ rfl _ _ 32 rfl w.heap.size 9 i0 (.string ⟨#[]⟩) 1 Tryz.underlying32 hi hz0 hz1 .i64 .i64 _ _ 0 rfl rfl rfl rfl (by rw [hz2]; omega) (by unfold maxLen; omega) (Nat.le_refl _) ?_; intro w1 how hgw; have d5 := key_cell hgw c5; have hcp := run_copy_nil (P := Tryz.prog) w1 32 32 3 9 ⟨w.heap.size, 0, none⟩ 0 0 Tryz.underlying32 HS1.out; have HOW := Lib.hid how; have HGW := Lib.hid hgw; clear how hgw c5))
    go_ret
    exact ⟨w.heap.size, rfl, by simpa [madeCells] using HOW.out, (Below.refl _ w).grown HGW.out (Nat.le_refl _) (fun g hg => by cases hg)⟩
  · exact keys_any B pb g cap n xs w c5 h hn h1
/-- a property as it is told -/
structure PropD where
  key : ByteArray
  raw : ByteArray
  val : ByteArray
  com : List ByteArray
def propV (d : PropD) (u : Value) : List Value := [.string d.key, .string d.raw, .string d.val, u]
/-- a row of properties -/
def PRow (B : Nat) (v : Value) (l : List PropD) (w : World) : Prop :=
  ∃ us : List Value, us.length = l.length ∧ w.ownsRow B 34 4 v l.length (List.zipWith propV l us).flatten ∧ ∀ (i : Nat) (d : PropD) (u : Value), l[i]? = some d → us[i]? = some u → w.ownsRow B 9 1 u d.com.length (d.com.map Value.string)
theorem PRow.below {B : Nat} {v : Value} {l : List PropD} {w w' : World} (h : PRow B v l w) (hb : Below w.heap.size w w') : PRow B v l w' := by
  obtain ⟨us, h1, h2, h3⟩ := h
  exact ⟨us, h1, row_keep h2 (fun g hg => hb.block g (row_lt h2 hg).2), fun i d u hd hu => row_keep (h3 i d u hd hu) (fun g hg => hb.block g (row_lt (h3 i d u hd hu) hg).2)⟩
theorem PRow.base {B B' : Nat} {v : Value} {l : List PropD} {w : World} (h : PRow B v l w) (hb : B' ≤ B) : PRow B' v l w := by
  obtain ⟨us, h1, h2, h3⟩ := h
  exact ⟨us, h1, row_base h2 hb, fun i d u hd hu => row_base (h3 i d u hd hu) hb⟩
theorem PRow.nil (B : Nat) (w : World) : PRow B (.slice none 0 0) [] w := ⟨[], rfl, ⟨rfl, .inl ⟨rfl, rfl⟩⟩, fun i d u h => by simp at h⟩
/-- one property more -/
theorem PRow.snoc {B : Nat} {v' : Value} {l : List PropD} {d : PropD} {u : Value} {w' : World} {us : List Value} (h1 : us.length = l.length) (h2 : w'.ownsRow B 34 4 v' (l.length + 1) ((List.zipWith propV l us).flatten ++ propV d u))
    (h3 : ∀ (i : Nat) (d : PropD) (u : Value), l[i]? = some d → us[i]? = some u → w'.ownsRow B 9 1 u d.com.length (d.com.map Value.string)) (h4 : w'.ownsRow B 9 1 u d.com.length (d.com.map Value.string)) : PRow B v' (l ++ [d]) w' := by
  refine ⟨us ++ [u], by simp [h1], ?_, fun i d' u' hd hu => ?_⟩
  · rw [List.zipWith_append h1.symm]
    simpa using h2
  · by_cases hi : i < l.length
    · rw [List.getElem?_append_left hi] at hd
      rw [List.getElem?_append_left (by omega)] at hu
      exact h3 i d' u' hd hu
    · rw [List.getElem?_append_right (by omega)] at hd
      rw [List.getElem?_append_right (by omega)] at hu
      rw [h1] at hu
      obtain ⟨hi0, rfl⟩ : i - l.length = 0 ∧ d = d' := by
        cases h9 : i - l.length with
        | zero => rw [h9] at hd; simp at hd; exact ⟨rfl, hd⟩
        | succ k => rw [h9] at hd; simp at hd
      rw [hi0] at hu
      simp at hu
      subst hu
      exact h4
end Go.Proofs.YtgmhigjhooihdaaGreatDoor

set_option linter.unusedVariables false
namespace Go.Proofs.YtgmhigjhooihdaaGreatDoor
open Go.RowKit Plain Go.Maps

def dataOf (p : PSt) (vf : ByteArray → ByteArray) (k : ByteArray) : PropD := ⟨k, rawOf p.D k, vf k, (p.cf k).getD []⟩
def PropsPost (l : List PropD) (w : World) (e : Ending) (w' : World) : Prop := ∃ v, e = .returned v ∧ PRow w.heap.size v l w' ∧ Below w.heap.size w w'
/-- what is asked of Get -/
def GetsTo (pb : Nat) (ks : List ByteArray) (vf : ByteArray → ByteArray) (w : World) : Prop :=
  ∀ k ∈ ks, ∀ wr, Below w.heap.size w wr → Calls Tryz.prog 52 #[.pointer (some ⟨pb, 0, none⟩), .string k] wr fun e w' => ∃ b : Bool, e = .returned (.tuple #[.string (vf k), .bool b]) ∧ Below wr.heap.size wr w'
theorem look_run {w : World} {b n : Nat} {D : DataW Unit} (h : MpS w b n D) {k : ByteArray} (hk : k.size ≤ maxLen) : (Instr.lookup 62 (.map (some b)) (.string k) false).run Tryz.prog w = .ok (.string (rawOf D k)) w := by
  obtain ⟨v, ps, hrun, hv⟩ := h.lookup (t := 62) (e := 9) lawS Tryz.underlying62 (zeroS w) (plainElem_string (H := Unit) Tryz.underlying9 (by unfold maxLen; decide)) (WideMaps.keyOf_string_mk Tryz.underlying9 hk)
  obtain ⟨c, rfl, hz, hs⟩ := plainElem_string_inv Tryz.underlying9 hv
  rw [hrun, rawOf_of (congrArg Prod.fst hz)]
/-- the comments of a key, as they are got: one slice, in every world that goes on -/
theorem com_got {B pb mb mc n nc : Nat} {p : PSt} {DC : DataW Value} {lv : Value} {dis : Bool} {w : World} (h : LP B pb mb mc n nc p DC lv dis w) (k : ByteArray) (hk : k.size ≤ 2147483647) :
    ∃ cv, w.ownsRow B 9 1 cv ((p.cf k).getD []).length (((p.cf k).getD []).map Value.string) ∧ ∀ y, Below w.heap.size w y → Calls Tryz.prog 32 #[.pointer (some ⟨pb, 0, none⟩), .string k] y fun e w' => e = .returned cv ∧ w' = y := by
  have c4 : ∀ y, Below w.heap.size w y → y.cell? ⟨pb, 4, none⟩ = some (.map (some mc)) := fun y hy => by
    have hb := (h.below hy).blk
    simp [World.cell?, hb]
  cases hc : p.cf k with
  | none =>
    refine ⟨.slice none 0 0, World.ownsRow_nil _ _ _ _, fun y hy => ?_⟩
    refine (comGet_any pb mc nc DC k y (c4 y hy) (h.below hy).cp hk).mono ?_
    rintro e w' ⟨⟨v, rfl, _, h2⟩, rfl⟩
    rw [h2 ((h.cr k).1 hc)]
    exact ⟨rfl, rfl⟩
  | some l =>
    obtain ⟨v, v1, v2, v3, v4⟩ := (h.cr k).2 l hc
    refine ⟨v, v3, fun y hy => ?_⟩
    refine (comGet_any pb mc nc DC k y (c4 y hy) (h.below hy).cp hk).mono ?_
    rintro e w' ⟨⟨v', rfl, h1, _⟩, rfl⟩
    have := h1 v1
    rw [v2] at this
    injection this with this
    rw [this]
    exact ⟨rfl, rfl⟩
/-- an append at a step of a region that draws -/
theorem step_app {ops : Array Oper} {o : Oper} {a : Act} {w : World} {K : Act → World → Prop} {Q : Exit → Act → World → Prop} {E : Prop} (hgd : o.guard = none) (s x : Operand) (t : TypeId)
    (ho : o.op = .call { callee := .builtin .append, args := #[s, x], argTypes := #[t, t] }) (v src : Value) (hs : a.eval s = v) (hx : a.eval x = src) (F : Value → World → Prop)
    (hrun : ∃ v' w', (Builtin.append_ #[t, t] o.type #[v, src]).run Tryz.prog w = .ok v' w' ∧ F v' w') (h : ∀ v' w', F v' w' → K (a.put o.dst v') w') :
    if Region.wanted o (yielded ops a.tmps) = true then Oper.wp Tryz.prog o a w K Q else E := by
  have hw : Region.wanted o (yielded ops a.tmps) = true := by simp [Region.wanted, hgd]
  rw [if_pos hw]
  obtain ⟨v', w', hr, hF⟩ := hrun
  unfold Oper.wp execOp
  simp only [ho, resolve, invoke, builtin, Sem.run_bind, Sem.run_pure, Result.andThen_ok, List.map_toArray, List.map_cons, List.map_nil, hs, hx, hr]
  exact h v' w' hF
/-- comments are copied onto an empty slice -/
theorem app_com {y : World} {base B S : Nat} {cv : Value} {com : List ByteArray} (ty : TypeId) (hS : y.heap[S]? = some (.cells #[] 9 (0, 0))) (hb : base ≤ S) (hc : y.ownsRow B 9 1 cv com.length (com.map Value.string)) (hL : com.length ≤ 10000000) :
    ∃ v' y', (Builtin.append_ #[32, 32] ty #[.slice (some ⟨S, 0, none⟩) 0 0, cv]).run Tryz.prog y = .ok v' y' ∧ ∃ g c, v' = .slice (some ⟨g, 0, none⟩) com.length c ∧ y'.ownsRow base 9 1 v' com.length (com.map Value.string) ∧ y.grownBy y' (some S) := by
  obtain ⟨i0, hi, hz0, hz1, hz2⟩ := info_parts infoStr
  have hlt := lt_of_block hS
  have hown : y.ownsRow base 9 1 (.slice (some ⟨S, 0, none⟩) 0 0) 0 [] := ⟨rfl, .inr ⟨S, 0, #[], rfl, hb, hS, Nat.le_refl _, by unfold maxLen; omega, rfl, rfl⟩⟩
  rcases hc.2 with ⟨rfl, h0⟩ | ⟨g, cap, cur, rfl, _⟩
  · have hc0 : com = [] := List.eq_nil_of_length_eq_zero h0
    subst hc0
    exact ⟨_, y, run_append_owned_none (P := Tryz.prog) (w := y) base 32 ty 9 i0 1 Tryz.underlying32 hi _ 0 [] hown, S, 0, rfl, hown, ⟨rfl, rfl, rfl, Nat.le_refl _, fun _ _ _ => rfl⟩⟩
  · obtain ⟨v', y', hr, h2, h3, h4, _⟩ := run_append_own_at (P := Tryz.prog) y base 32 ty 9 i0 (.string ⟨#[]⟩) 1 16 Tryz.underlying32 hi hz0 hz1 hz2 rfl (by decide) _ 0 [] hown ⟨g, 0, none⟩ com.length cap (com.map Value.string) (by simp) (hc.cells rfl) (by intro u hu; obtain ⟨x, _, rfl⟩ := List.mem_map.1 hu; rfl) (by unfold maxLen; omega) (by omega) (by omega)
    have h2' : y'.ownsRow base 9 1 v' com.length (com.map Value.string) := by simpa using h2
    rcases h2'.2 with ⟨h5, _⟩ | ⟨g', c', cur', h5, _⟩
    · have := (h4.1 h5).1
      cases this
    · exact ⟨v', y', hr, g', c', h5, h2', h3⟩
/-- a property is put behind a row -/
theorem app_prop {y : World} {base n Z : Nat} {v : Value} {xs : List Value} (ty : TypeId) (d : PropD) (u : Value) (hu : u.oneCell' = true) (hv : y.ownsRow base 34 4 v n xs) (hZ : y.heap[Z]? = some (.cells #[.string d.key, .string d.raw, .string d.val, u] 34 (0, 0))) (hn : n ≤ 10000000) (hb : base ≤ y.heap.size) :
    ∃ v' y', (Builtin.append_ #[25, 25] ty #[v, .slice (some ⟨Z, 0, none⟩) 1 1]).run Tryz.prog y = .ok v' y' ∧ y'.ownsRow base 34 4 v' (n + 1) (xs ++ propV d u) ∧ y.grownBy y' v.ownBlock := by
  obtain ⟨j0, hj, hy0, hy1, hy2⟩ := info_parts infoPr
  obtain ⟨v', y', hr, h2, h3, _, _⟩ := run_append_own_at (P := Tryz.prog) y base 25 ty 34 j0 (.agg #[.string ⟨#[]⟩, .string ⟨#[]⟩, .string ⟨#[]⟩, .slice none 0 0]) 4 72 Tryz.underlying25 hj hy0 hy1 hy2 rfl (by decide) v n xs hv ⟨Z, 0, none⟩ 1 1 (propV d u) rfl (by
      intro j x hx
      rw [add_at, Nat.zero_add]
      simp only [World.cell?, hZ]
      simpa [propV] using hx) (by
      intro x hx
      simp [propV] at hx
      rcases hx with rfl | rfl | rfl | rfl
      · rfl
      · rfl
      · rfl
      · exact hu) (by unfold maxLen; omega) (by omega) hb
  exact ⟨v', y', hr, h2, h3⟩
theorem one_row {w : World} {B sz n : Nat} {e : TypeId} {v : Value} {xs : List Value} (h : w.ownsRow B e sz v n xs) : v.oneCell' = true := by
  rcases h.2 with ⟨rfl, _⟩ | ⟨g, cap, cur, rfl, _⟩ <;> rfl
attribute [local go_sem ↓] Go.wp_at_zero Go.wp_at_succ
set_option maxHeartbeats 4000000 in
set_option maxRecDepth 100000 in
theorem props_any (B pb mb mc n nc : Nat) (p : PSt) (DC : DataW Value) (lv : Value) (dis : Bool) (vf : ByteArray → ByteArray) (w : World) (h : LP B pb mb mc n nc p DC lv dis w) (hn : n ≤ 10000000) (hks : p.ks.length ≤ 10000000) (hsz : ∀ k ∈ p.ks, k.size ≤ 10000000) (hcf : ∀ k l, p.cf k = some l → l.length ≤ 10000000) (hget : GetsTo pb p.ks vf w) :
    Calls Tryz.prog 43 #[.pointer (some ⟨pb, 0, none⟩)] w (PropsPost (p.ks.map (dataOf p vf)) w) := by
  unfold PropsPost
  obtain ⟨i0, hi, hz0, hz1, hz2⟩ := info_parts infoStr
  obtain ⟨j0, hj, hy0, hy1, hy2⟩ := info_parts infoPr
  obtain ⟨c2, c3, c5, c6, _⟩ := seven_cells h.blk
  have HL := Lib.hid h
  have HMP := Lib.hid (map_any pb mb n p.D w c3 h.mp hn)
  have HG := Lib.hid hget
  clear hget h c2 c3 c5 c6
  go_enter Tryz.func43, Tryz.ntmps43
  go_wp2_with (first
    | (go_at_call 30; (with_reducible refine HMP.out.mono ?_); rintro e w1 ⟨M, rfl, hM1, hM2, hb1⟩; have HM := Lib.hid hM2; have HB1 := Lib.hid hb1; have HL1 := Lib.hid (HL.out.below hb1); have HKY := Lib.hid (keysN_any B pb p.ks.length lv (p.ks.map Value.string) w1 (seven_cells HL1.out.blk).2.2.1 HL1.out.row hks (by intro v hv; obtain ⟨x, _, rfl⟩ := List.mem_map.1 hv; rfl)); clear hM2 hb1; dsimp only)
    | (go_at_call 31; (with_reducible refine HKY.out.mono ?_); rintro e w2 ⟨G, rfl, hG, hb2⟩; have HGR := Lib.hid hG; have HB2 := Lib.hid hb2; clear hG hb2; dsimp only))
  obtain ⟨N, hN⟩ : ∃ N, p.ks.length = N := ⟨_, rfl⟩
  have HN := Lib.hid hN
  rw [hN] at HGR hks ⊢
  have HB02 : Hid (Below w.heap.size w w2) := Lib.hid (bthen HB1.out HB2.out)
  have HL2 := Lib.hid (HL1.out.below HB2.out)
  have HM2 : Hid (MpS w2 M _ p.D) := Lib.hid (mp_keep HM.out (HB2.out.block M (map_lt (mp_is HM.out))))
  clear hN HMP HKY HM HL1
  go_loopg [4, 14] N (fun g' v4 v14 wr => ∃ i : Nat, v14 = .int .i64 (i : Int) ∧ i ≤ N ∧ g' = N - i ∧ Hid (PRow w2.heap.size v4 ((p.ks.take i).map (dataOf p vf)) wr) ∧ Hid (Below w2.heap.size w2 wr))
  case atStart => exact ⟨0, rfl, Nat.zero_le _, rfl, Lib.hid (PRow.nil _ _), Lib.hid (Below.refl _ _)⟩
  case round =>
    obtain ⟨i, rfl, hin, rfl, HR, HB⟩ := hrel
    by_cases hlt : i < N
    · have hiz : (i : Int) < (N : Int) := by omega
      obtain ⟨k, hx⟩ : ∃ x, p.ks[i]? = some x := ⟨_, List.getElem?_eq_getElem (by have := HN.out; omega)⟩
      have x0 : wr.cell? ⟨G, i, none⟩ = some (.string k) := by
        have hrw := row_keep HGR.out (fun g hg => HB.out.block g (row_lt HGR.out hg).2)
        rw [hrw.cellAt i (by omega)]
        simp [hx]
      have hks' : k.size ≤ 10000000 := hsz k (List.mem_of_getElem? hx)
      have HGT := Lib.hid (HG.out k (List.mem_of_getElem? hx) wr (bthen HB02.out HB.out))
      have HX := Lib.hid hx
      clear hx
      go_wp2_with (go_at_call 52; (with_reducible refine HGT.out.mono ?_); rintro e w3 ⟨bb, rfl, hb3⟩; have HB3 := Lib.hid hb3; clear hb3; dsimp only)
      have HM3 : Hid (MpS w3 M _ p.D) := Lib.hid (mp_keep HM2.out ((bthen HB.out HB3.out).block M (map_lt (mp_is HM2.out))))
      have HL3 := Lib.hid (HL2.out.below (bthen HB.out HB3.out))
      obtain ⟨cv, hcv, hgc⟩ := com_got HL3.out k (by omega)
      obtain ⟨R, hR⟩ : ∃ R, rawOf p.D k = R := ⟨_, rfl⟩
      obtain ⟨Vk, hVk⟩ : ∃ R, vf k = R := ⟨_, rfl⟩
      have hkm : k.size ≤ maxLen := by unfold maxLen; omega
      have HLK : Hid (∀ y, Below w3.heap.size w3 y → (Instr.lookup 62 (.map (some M)) (.string k) false).run Tryz.prog y = .ok (.string R) y) := Lib.hid (fun y hy => hR ▸ look_run (mp_keep HM3.out (hy.block M (map_lt (mp_is HM3.out)))) hkm)
      have HLK2 : Hid (∀ y, Below w2.heap.size w2 y → (Instr.lookup 62 (.map (some M)) (.string k) false).run Tryz.prog y = .ok (.string R) y) := Lib.hid (fun y hy => hR ▸ look_run (mp_keep HM2.out (hy.block M (map_lt (mp_is HM2.out)))) hkm)
      have HCV := Lib.hid hcv
      have HGC := Lib.hid hgc
      rw [hVk]
      clear hcv hgc
      have HD3 : Hid (Below w3.heap.size w3 w3.drew) := Lib.hid (Below.drew (Below.refl _ _))
      have HDA : Hid (∀ o, Below w3.heap.size w3 (w3.alloc o).drew) := Lib.hid (fun o => Below.drew ((Below.refl _ _).alloc (Nat.le_refl _) o))
      have HNW : Hid (((w3.alloc (.cells #[] 9)).drew).heap[w3.heap.size]? = some (.cells #[] 9 (0, 0))) := Lib.hid (heap_alloc_new w3 (.cells #[] 9))
      have HCL : Hid (((p.cf k).getD []).length ≤ 10000000) := Lib.hid (by
        cases hc : p.cf k with
        | none => simp
        | some l => exact hcf k l hc)
      have HCVK : Hid (∀ y, Below w3.heap.size w3 y → y.ownsRow B 9 1 cv ((p.cf k).getD []).length (((p.cf k).getD []).map Value.string)) := Lib.hid (fun y hy => row_keep HCV.out (fun g hg => hy.block g (row_lt HCV.out hg).2))
      have h23 : w2.heap.size ≤ w3.heap.size := Nat.le_trans HB.out.size HB3.out.size
      obtain ⟨us, hus1, hus2, hus3⟩ := HR.out.below HB3.out
      have HU1 := Lib.hid hus1
      have HU2 := Lib.hid hus2
      have HU3 := Lib.hid hus3
      obtain ⟨C, hC⟩ : ∃ C, (p.cf k).getD [] = C := ⟨_, rfl⟩
      rw [hC] at HCVK HCL
      have hdd : dataOf p vf k = ⟨k, R, Vk, C⟩ := by unfold dataOf; rw [hR, hVk, hC]
      have HDD := Lib.hid hdd
      have hln : ((p.ks.take i).map (dataOf p vf)).length = i := by rw [List.length_map, List.length_take, HN.out]; omega
      rw [hln] at HU2
      clear hus1 hus2 hus3 hC hdd hR hVk hln
      go_region_held3 (fun y => (Instr.lookup 62 (.map (some M)) (.string k) false).run Tryz.prog y = .ok (.string R) y)
        (first | exact HLK.out _ HD3.out | exact HLK.out _ (HDA.out _) | exact HLK.out _ HY1.out | exact HLK.out _ (HY1.out.alloc HY1.out.size _) | exact HLK2.out _ HY2.out)
        (first
          | (go_at_call 32; (with_reducible refine (HGC.out _ (by first | exact HD3.out | exact HDA.out _)).mono ?_); rintro e y9 ⟨rfl, rfl⟩; dsimp only)
          | (refine step_app (by rfl) _ _ 32 (by rfl) _ _ (by rfl) (by rfl) _ (app_com (base := w2.heap.size) (S := w3.heap.size) _ HNW.out h23 (HCVK.out _ (HDA.out _)) HCL.out) ?_; rintro v1 y1 ⟨g1, c1, rfl, hF1⟩; have HF1 := Lib.hid hF1.1; have HY1 : Hid (Below w3.heap.size w3 y1) := Lib.hid ((HDA.out _).grown hF1.2 (by simp) (fun g hg => by injection hg with hg; omega)); clear hF1)
          | (refine step_app (by rfl) _ _ 25 (by rfl) _ _ (by rfl) (by rfl) _ (app_prop (base := w2.heap.size) (n := i) (Z := y1.heap.size) _ ⟨k, R, Vk, C⟩ (.slice (some ⟨g1, 0, none⟩) C.length c1) rfl (row_keep HU2.out (fun g hg => ((HY1.out.alloc HY1.out.size _).block g (row_lt HU2.out hg).2))) (heap_alloc_new y1 _) (by omega) (by have := HY1.out.size; simp; omega)) ?_; intro v2 y2 hF2; have HF2 := Lib.hid hF2.1; have HG2 := Lib.hid hF2.2; have HY2 : Hid (Below w2.heap.size w2 y2) := Lib.hid ((((bthen HB.out HB3.out).trans (HY1.out.mono h23)).alloc (by have := HY1.out.size; omega) _).grown hF2.2 (by have := HY1.out.size; simp; omega) (fun g hg => (row_lt HU2.out hg).1)); clear hF2))
      all_goals (
        have hty : ∀ (g : Nat) (cs : Array Value), w3.heap[g]? = some (.cells cs 9 (0, 0)) → y2.heap[g]? = w3.heap[g]? := fun g cs hg => (HG2.out.block g (Nat.lt_of_lt_of_le (lt_of_block hg) (by have := HY1.out.size; simp; omega)) (fun e => by
          obtain ⟨cs', h9⟩ := row_cells HU2.out e.symm
          rw [hg] at h9
          injection h9 with h9
          injection h9 with _ h9
          exact absurd h9 (by decide))).trans ((Below.heap_alloc y1 _ _ (Nat.lt_of_lt_of_le (lt_of_block hg) HY1.out.size)).trans (HY1.out.block g (lt_of_block hg)))
        have hnew : y2.ownsRow w2.heap.size 9 1 (.slice (some ⟨g1, 0, none⟩) C.length c1) C.length (C.map Value.string) := row_keep HF1.out (fun g hg => by
          obtain ⟨cs, hcs⟩ := row_cells HF1.out hg
          refine (HG2.out.block g (by have := lt_of_block hcs; simp; omega) (fun e => ?_)).trans (Below.heap_alloc y1 _ _ (lt_of_block hcs))
          obtain ⟨cs', h9⟩ := row_cells HU2.out e.symm
          rw [← HY1.out.block g (lt_of_block h9), hcs] at h9
          injection h9 with h9
          injection h9 with _ h9
          exact absurd h9 (by decide))
        have hl9 : ((p.ks.take i).map (dataOf p vf)).length = i := by rw [List.length_map, List.length_take, HN.out]; omega
        have hrows : ∀ (j : Nat) (d : PropD) (u : Value), ((p.ks.take i).map (dataOf p vf))[j]? = some d → us[j]? = some u → y2.ownsRow w2.heap.size 9 1 u d.com.length (d.com.map Value.string) := fun j d u hd hu => row_keep (HU3.out j d u hd hu) (fun g hg => by
          obtain ⟨cs, hcs⟩ := row_cells (HU3.out j d u hd hu) hg
          exact hty g cs hcs)
        have hsn := PRow.snoc (d := ⟨k, R, Vk, C⟩) HU1.out (by rw [hl9]; exact HF2.out) hrows hnew
        have HR2 : Hid (PRow w2.heap.size v2 ((p.ks.take (i + 1)).map (dataOf p vf)) y2) := Lib.hid (by
          rw [List.take_add_one, HX.out, List.map_append]
          show PRow _ _ (_ ++ [dataOf p vf k]) _
          rw [HDD.out]
          exact hsn)
        clear hrows hsn
        have HB2' := Lib.hid HY2.out
        clear hty hnew hl9
        go_wp2
        go_roundg (N - (i + 1))
        case measure => omega
        case rel => exact ⟨i + 1, by go_num, by omega, rfl, HR2, HB2'⟩)
    · have hiz : ¬ (i : Int) < (N : Int) := by omega
      obtain rfl : i = N := by omega
      have hsz2 := HB02.out.size
      go_wp2
      go_ret
      refine ⟨u4, rfl, ?_, bthen HB02.out HB.out⟩
      have := HR.out
      rw [List.take_of_length_le (Nat.le_of_eq HN.out)] at this
      exact this.base hsz2
end Go.Proofs.YtgmhigjhooihdaaGreatDoor

namespace Go.Proofs
open Go.Shelf
shelf_lay Lays.nb139 Nm 139 at Tryz as Tryz.lays139
end Go.Proofs
namespace Go.Proofs.YtgmhigjhooihdaaGreatDoor
open Go.RowKit
theorem trim_any (p1 p2 : Option Addr) (n c m d : Nat) (xs ys : List Int) (w : World) (hx : xs.length = n) (hy : ys.length = m) (hnc : n ≤ c) (h1 : Lib.BytesIn w p1 n xs) (h2 : Lib.BytesIn w p2 m ys) :
    Calls Tryz.prog 85 #[.slice p1 n c, .slice p2 m d] w fun e w' => e = .returned (Lib.trimPrefixV p1 n c xs ys) ∧ w' = w := by
  have hcon := Any.bytes_TrimPrefix_all Tryz.lays139 p1 p2 n c m d xs ys w hx hy hnc h1 h2
  change Calls Tryz.prog 85 _ _ _ at hcon
  exact hcon
end Go.Proofs.YtgmhigjhooihdaaGreatDoor

set_option linter.unusedVariables false
namespace Go.Proofs.YtgmhigjhooihdaaGreatDoor
open Go.RowKit Plain Go.Maps

def ParPost (o : Option PSt) (w : World) (e : Ending) (w' : World) : Prop :=
  match o with
  | some p => ∃ pb mb mc n nc DC lv, e = .returned (.tuple #[.pointer (some ⟨pb, 0, none⟩), .nilIface]) ∧ PQ w.heap.size pb mb mc n nc p DC lv w' ∧ CRel w.heap.size DC p.cf lv (.slice none 0 0) w' ∧ Below w.heap.size w w'
  | none => ∃ P N : Nat, e = .returned (.tuple #[.pointer (some ⟨P, 0, none⟩), .iface 196 (.pointer (some ⟨N, 0, none⟩))]) ∧ Below w.heap.size w w'
/-- a frame with deferred calls, known by its size -/
theorem frame_litD (n : Nat) (a : Act) (ds : List Deferred) (h : a.tmps.size = n ∧ a.defers = ds) : ∃ f : Nat → Value, (∀ i, Sl a i = f i) ∧ a = ⟨((List.range n).map f).toArray, ds⟩ := by
  obtain ⟨h1, h2⟩ := h
  refine ⟨Sl a, fun _ => rfl, ?_⟩
  have e := list_lit a.tmps.toList
  rw [Array.length_toList, h1] at e
  cases a with
  | mk t d =>
    subst h2
    congr 1
    apply Array.toList_inj.1
    exact e.symm
theorem litD88 (a : Act) (ds : List Deferred) (h : a.tmps.size = 88 ∧ a.defers = ds) : ∃ f : Nat → Value, (∀ i, Sl a i = f i) ∧ a = ⟨#[f 0, f 1, f 2, f 3, f 4, f 5, f 6, f 7, f 8, f 9, f 10, f 11, f 12, f 13, f 14, f 15, f 16, f 17, f 18, f 19, f 20, f 21, f 22, f 23, f 24, f 25, f 26, f 27, f 28, f 29, f 30, f 31, f 32, f 33, f 34, f 35, f 36, f 37, f 38, f 39, f 40, f 41, f 42, f 43, f 44, f 45, f 46, f 47, f 48, f 49, f 50, f 51, f 52, f 53, f 54, f 55, f 56, f 57, f 58, f 59, f 60, f 61, f 62, f 63, f 64, f 65, f 66, f 67, f 68, f 69, f 70, f 71, f 72, f 73, f 74, f 75, f 76, f 77, f 78, f 79, f 80, f 81, f 82, f 83, f 84, f 85, f 86, f 87], ds⟩ := frame_litD 88 a ds h
def defR (qb e0 : Nat) : Deferred := { target := .fn (.func 100) #[], args := #[.pointer (some ⟨qb, 0, none⟩), .pointer (some ⟨e0, 0, none⟩)] }
/-- what holds where the parser is done -/
def DoneP (w : World) (o : Option PSt) (e0 : Nat) (a : Act) (w' : World) : Prop :=
  ∃ p pb mb mc n nc DC lv qb, o = some p ∧ a.tmps.size = 88 ∧ a.defers = [defR qb e0] ∧ Sl a 2 = .pointer (some ⟨pb, 0, none⟩) ∧ Sl a 3 = .pointer (some ⟨e0, 0, none⟩) ∧ PQ w.heap.size pb mb mc n nc p DC lv w' ∧ CRel w.heap.size DC p.cf lv (.slice none 0 0) w' ∧ Below w.heap.size w w' ∧ w.heap.size ≤ e0 ∧ w'.heap[e0]? = some (.cells #[.nilIface] 80 (0, 0))
set_option maxHeartbeats 4000000 in
set_option maxRecDepth 100000 in
/-- the way out of a panic -/
theorem door_pan (w : World) (e0 qb pb N : Nat) (a : Act) (w' : World) (h1 : a.tmps.size = 88) (h2 : a.defers = [defR qb e0]) (h3 : Sl a 2 = .pointer (some ⟨pb, 0, none⟩)) (h4 : Sl a 3 = .pointer (some ⟨e0, 0, none⟩)) (hle : w.heap.size ≤ e0) (hcell : w'.heap[e0]? = some (.cells #[.nilIface] 80 (0, 0))) (hb : Below w.heap.size w w') :
    bodyPostD Tryz.prog Tryz.f86 (ParPost none w) (Exit.panic [{ v := .iface 196 (.pointer (some ⟨N, 0, none⟩)), recovered := false }]) a w' := by
  obtain ⟨f, hf, hA⟩ := litD88 a _ ⟨h1, h2⟩
  rw [hf] at h3 h4
  rw [h3, h4] at hA
  subst hA
  clear hf h1 h2 h3 h4
  have c0 : w'.cell? ⟨e0, 0, none⟩ = some .nilIface := by simp [World.cell?, hcell]
  have f0 : w'.frozen? ⟨e0, 0, none⟩ = false := by simp [World.frozen?, hcell]
  unfold defR
  refine leaves_cons (f := 100) (args := #[.pointer (some ⟨qb, 0, none⟩), .pointer (some ⟨e0, 0, none⟩)]) (by simp) (by simp [go_sem]) ?_
  refine (rec_pan _ ⟨e0, 0, none⟩ _ _ [] _ c0 f0).mono ?_
  rintro e u' w'' ⟨rfl, rfl, rfl⟩
  obtain ⟨W2, hW2⟩ : ∃ W2, w'.setCell ⟨e0, 0, none⟩ (.iface 196 (.pointer (some ⟨N, 0, none⟩))) = W2 := ⟨_, rfl⟩
  have d0 : W2.cell? ⟨e0, 0, none⟩ = some (.iface 196 (.pointer (some ⟨N, 0, none⟩))) := by rw [← hW2]; exact World.cell?_setCell_same' w' ⟨e0, 0, none⟩ _ (by simp [c0])
  have hb2 : Below w.heap.size w W2 := by rw [← hW2]; exact hb.setCell (p := ⟨e0, 0, none⟩) hle _
  rw [hW2]
  simp [Leaves, settle, results, Tryz.results86, go_sem, d0]
  exact ⟨pb, N, rfl, hb2⟩
/-- what holds in the loop -/
structure RL (w : World) (s : ByteArray) (o : Option PSt) (e0 qb lb g pb mb mc : Nat) (rest : List LI) (cm : List ByteArray) (p : PSt) (n nc : Nat) (DC : DataW Value) (lv cmv : Value) (wr : World) : Prop where
  pm : PM w e0 qb lb pb mb mc n nc p DC lv cmv cm wr
  it : IT lb g s rest wr
  wf : WfI rest
  law : parL rest cm p = o
  txt : ∀ x ∈ rest, x.text.size ≤ 10000000
  b1 : cm.length + rest.length ≤ 10000000
  b2 : p.ks.length + rest.length ≤ 10000000
  b3 : n + rest.length ≤ 10000000
  b4 : nc + rest.length ≤ 10000000
set_option maxHeartbeats 16000000 in
set_option maxRecDepth 100000 in
theorem parse_any (s : ByteArray) (w : World) (hs : s.size ≤ 100000) (hT : Tabs w) (o : Option PSt) (ho : parL (lexL s) [] pst0 = o) :
    Calls Tryz.prog 86 #[.string s] w (ParPost o w) := by
  go_enter_defers Tryz.func86, Tryz.ntmps86
  go_wp2
  obtain ⟨e0, he0⟩ : ∃ e0, w.heap.size = e0 := ⟨_, rfl⟩
  rw [he0]
  refine wp_scope_jumps 0 (DoneP w o e0) (fun _ _ => 0) (by rfl) ?first ?pass
  case pass =>
    rintro a w' ⟨p, pb, mb, mc, n, nc, DC, lv, qb, ho', ha1, ha2, hS2, hS3, hq, hc, hb, hle, hcell⟩
    obtain ⟨f, hf, hA⟩ := litD88 a _ ⟨ha1, ha2⟩
    rw [hf] at hS2 hS3
    rw [hS2, hS3] at hA
    subst hA
    clear hf ha1 ha2 hS2 hS3
    have c0 : w'.cell? ⟨e0, 0, none⟩ = some .nilIface := by simp [World.cell?, hcell]
    have f0 : w'.frozen? ⟨e0, 0, none⟩ = false := by simp [World.frozen?, hcell]
    have HQ := Lib.hid hq
    have HC := Lib.hid hc
    have HB := Lib.hid hb
    have HCE := Lib.hid hcell
    clear hq hc hb hcell
    go_wp2
    change bodyPostD Tryz.prog Tryz.f86 (ParPost o w) Exit.ret _ _
    obtain ⟨W2, hW2⟩ : ∃ W2, w'.setCell ⟨e0, 0, none⟩ .nilIface = W2 := ⟨_, rfl⟩
    have d0 : W2.cell? ⟨e0, 0, none⟩ = some .nilIface := by rw [← hW2]; exact World.cell?_setCell_same' w' ⟨e0, 0, none⟩ _ (by simp [c0])
    have hkp : ∀ j, j ≠ e0 → W2.heap[j]? = w'.heap[j]? := fun j hj => by rw [← hW2]; exact Below.heap_setCell _ _ _ _ hj
    rw [hW2]
    have hne : ∀ {k : Nat} {c : Array Value} {u : TypeId}, w'.heap[k]? = some (.cells c u (0, 0)) → u ≠ 80 → k ≠ e0 := fun h1 h2 e => by
      subst e
      rw [HCE.out] at h1
      injection h1 with h1
      injection h1 with _ h1
      exact h2 h1.symm
    have hq := HQ.out
    have hq2 : PQ w.heap.size pb mb mc n nc p DC lv W2 := ⟨(hkp pb (hne hq.blk (by decide))).trans hq.blk, mp_keep hq.mp (hkp mb (fun e => by obtain ⟨es, c, h⟩ := mp_is hq.mp; rw [e, HCE.out] at h; cases h)), mpc_keep hq.cp (hkp mc (fun e => by obtain ⟨es, c, h⟩ := mpc_is hq.cp; rw [e, HCE.out] at h; cases h)), row_keep hq.row (fun g hg => by obtain ⟨cs, h⟩ := row_cells hq.row hg; exact hkp g (hne h (by decide))), hq.lo⟩
    have hc2 : CRel w.heap.size DC p.cf lv (.slice none 0 0) W2 := HC.out.keep (fun g cs h _ _ => hkp g (hne h (by decide))) (.inl rfl) (.inl rfl)
    have hb2 : Below w.heap.size w W2 := by rw [← hW2]; exact HB.out.setCell (p := ⟨e0, 0, none⟩) hle _
    have HF := Lib.hid (And.intro hq2 (And.intro hc2 hb2))
    clear hq hq2 hc2 hb2 hne hkp hW2 c0 f0
    unfold defR
    refine leaves_cons (f := 100) (args := #[.pointer (some ⟨qb, 0, none⟩), .pointer (some ⟨e0, 0, none⟩)]) (by simp) (by simp [go_sem]) ?_
    refine (rec_idle _ ⟨e0, 0, none⟩ _).mono ?_
    rintro e u' w'' ⟨rfl, rfl, rfl⟩
    subst ho'
    simp [Leaves, settle, results, Tryz.results86, go_sem, d0]
    exact ⟨pb, mb, mc, n, nc, DC, lv, rfl, HF.out.1, HF.out.2.1, HF.out.2.2⟩
  case first =>
    have hb0 : Below w.heap.size w (w.alloc (.cells #[.nilIface] 80)) := (Below.refl _ w).alloc (Nat.le_refl _) _
    have hT0 := hT.below hb0
    have h00 : (w.alloc (.cells #[.nilIface] 80)).heap[e0]? = some (.cells #[.nilIface] 80 (0, 0)) := by rw [← he0]; exact heap_alloc_new w _
    have h0s : (w.alloc (.cells #[.nilIface] 80)).heap.size = e0 + 1 := by simp [he0]
    obtain ⟨w0, hw0⟩ : ∃ w0, w.alloc (.cells #[.nilIface] 80) = w0 := ⟨_, rfl⟩
    rw [hw0] at hb0 hT0 h00 h0s ⊢
    have HLX := Lib.hid (lex_any s w0 hs hT0)
    have HB0 := Lib.hid hb0
    have HE0 := Lib.hid h00
    have HS0 := Lib.hid h0s
    have HO := Lib.hid ho
    clear hw0 hb0 hT0 h00 h0s ho
    go_wp2_with (go_at_call 94; (with_reducible refine HLX.out.mono ?_); rintro e w1 ⟨lb, q0, st0, rs0, rfl, hy, hb1⟩; dsimp only)
    have hwf := wfI_lexL s
    have hne : lexL s ≠ [] := fun e => by rw [e] at hwf; exact hwf
    obtain ⟨g, hit⟩ := hy.it hne
    have hlo : w0.heap.size ≤ lb := by obtain ⟨wd, h⟩ := hy; exact h.lo
    obtain ⟨qb, hqb⟩ : ∃ qb, w1.heap.size = qb := ⟨_, rfl⟩
    obtain ⟨w2, hw2⟩ : ∃ w2, w1.alloc (.cells #[.pointer (some ⟨lb, 0, none⟩)] 175) = w2 := ⟨_, rfl⟩
    have hb2 : Below w1.heap.size w1 w2 := hw2 ▸ (Below.refl _ w1).alloc (Nat.le_refl _) _
    have hq2 : w2.heap[qb]? = some (.cells #[.pointer (some ⟨lb, 0, none⟩)] 175 (0, 0)) := by rw [← hw2, ← hqb]; exact heap_alloc_new w1 _
    have HIT2 := Lib.hid (hit.below hb2)
    have HB2 : Hid (Below w0.heap.size w0 w2) := Lib.hid (bthen hb1 hb2)
    have HQ2 := Lib.hid hq2
    have HNP := Lib.hid (newPQ_any w2)
    have HW2 := Lib.hid hw2
    have HQB := Lib.hid hqb
    clear hit hy hb1 hb2 hq2 hw2 hqb
    go_wp2_with (go_at_call 28; rw [HW2.out]; (with_reducible refine HNP.out.mono ?_); rintro e w3 ⟨pb, mb, mc, lv, rfl, hpq, hb3⟩; (try rw [HQB.out]); dsimp only)
    have HQQ : Hid (PM w e0 qb lb pb mb mc 0 0 pst0 (.map []) lv (.slice (some ⟨w3.heap.size, 0, none⟩) 0 0) [] (w3.alloc (.cells #[] 9))) := Lib.hid (by
      have hb02 : Below w.heap.size w w2 := HB0.out.trans (HB2.out.mono (by have := HS0.out; omega))
      have h02 : w0.heap.size ≤ w2.heap.size := HB2.out.size
      have hb03 : Below w.heap.size w w3 := hb02.trans (hb3.mono hb02.size)
      have he2 : w2.heap[e0]? = _ := (HB2.out.block e0 (by have := HS0.out; omega)).trans HE0.out
      exact PM.start (hpq.base hb02.size) hb03 ((hb3.block _ (lx_lt he2)).trans he2) ((hb3.block _ (lx_lt HQ2.out)).trans HQ2.out) ⟨by omega, by have := HS0.out; omega⟩)
    have HIT4 : Hid (IT lb g s (lexL s) (w3.alloc (.cells #[] 9))) := Lib.hid ((HIT2.out.below hb3).below ((Below.refl _ w3).alloc (Nat.le_refl _) _))
    have hlen := lexN_len s (4 * s.size + 4) .before 0
    obtain ⟨w4, hw4⟩ : ∃ w4, w3.alloc (.cells #[] 9) = w4 := ⟨_, rfl⟩
    obtain ⟨c4, hc4⟩ : ∃ c4, w3.heap.size = c4 := ⟨_, rfl⟩
    rw [hw4, hc4] at HQQ
    rw [hw4] at HIT4
    rw [hw4, hc4]
    have HRL : Hid (RL w s o e0 qb lb g pb mb mc (lexL s) [] pst0 0 0 (.map []) lv (.slice (some ⟨c4, 0, none⟩) 0 0) w4) := Lib.hid ⟨HQQ.out, HIT4.out, hwf, HO.out, fun x hx => by have := lexL_text s x hx; omega, by unfold lexL; simp; omega, by unfold lexL; simp [pst0]; omega, by unfold lexL; simp; omega, by unfold lexL; simp; omega⟩
    clear hlen hw4 hc4 HQQ HIT4 hpq hb3 HNP HW2 HQB HLX HB2 HQ2 HIT2 HE0 HS0 HB0 hwf hne hlo hT HO
    go_loopg [6] (lexL s).length (fun g' v6 wr => ∃ rest cm p n nc DC lv, rest.length = g' ∧ Hid (RL w s o e0 qb lb g pb mb mc rest cm p n nc DC lv v6 wr))
    case atStart => exact ⟨lexL s, [], pst0, 0, 0, .map [], lv, rfl, HRL⟩
    case round =>
      clear HRL
      obtain ⟨rest, cm, p, n, nc, DC, lv, rfl, HRL⟩ := hrel
      obtain ⟨x, r, rfl⟩ : ∃ x r, rest = x :: r := by
        cases rest with
        | nil => exact HRL.out.wf.elim
        | cons x r => exact ⟨x, r, rfl⟩
      have HTK := Lib.hid (HRL.out.pm.take HRL.out.it [4, 2, 1] #[.int .i64 4, .int .i64 2, .int .i64 1] 3 rfl (by omega) (fun i k hk => by
        match i, hk with
        | 0, hk => simp at hk; subst hk; rfl
        | 1, hk => simp at hk; subst hk; rfl
        | 2, hk => simp at hk; subst hk; rfl
        | (i + 3), hk => simp at hk))
      have hk4 : x.kind ≤ 4 := by
        have := HRL.out.wf
        cases r with
        | nil => have h9 : x.kind < 2 := this; omega
        | cons y r => exact this.2.1
      obtain ⟨z, hz⟩ : ∃ z, wr.heap.size = z := ⟨_, rfl⟩
      rw [hz] at HTK
      by_cases h03 : x.kind = 0 ∨ x.kind = 3
      · go_wp2_with (go_at_call 101; (try rw [hz]); (with_reducible refine HTK.out.mono ?_); rintro e w5 ⟨_, hbad⟩; obtain ⟨N, rfl, hb5, hb6⟩ := hbad (by rcases h03 with h | h <;> rw [h] <;> decide))
        have ho : o = none := by
          rw [← HRL.out.law]
          unfold parL
          rw [if_neg (by omega), if_neg (by omega), if_neg (by omega)]
        subst ho
        have he := HRL.out.pm.le.1
        change bodyPostD Tryz.prog Tryz.f86 (ParPost none w) (Exit.panic [{ v := .iface 196 (.pointer (some ⟨N, 0, none⟩)), recovered := false }]) _ _
        exact door_pan w e0 qb pb N _ _ rfl rfl rfl rfl he hb5 hb6
      obtain ⟨P, hP⟩ : ∃ P : Int, (x.pos : Int) = P := ⟨_, rfl⟩
      obtain ⟨T, hT⟩ : ∃ T, x.text = T := ⟨_, rfl⟩
      obtain ⟨i0, hi, hz0, hz1, hz2⟩ := info_parts infoStr
      by_cases h1 : x.kind = 1
      · have HV : Hid (itemV x = .agg #[.int .i64 1, .int .i64 P, .string T]) := Lib.hid (by unfold itemV; rw [hP, hT, h1]; rfl)
        go_wp2_with (go_at_call 101; (try rw [hz]); (with_reducible refine HTK.out.mono ?_); rintro e w5 ⟨hok, _⟩; obtain ⟨rfl, hpm, hit, hsz, hkp⟩ := hok (by rw [h1]; decide); rw [HV.out]; have HPM := Lib.hid hpm; clear hok hpm hit hkp; dsimp only)
        go_step3
        exact ⟨rfl, p, pb, mb, mc, n, nc, DC, lv, qb, by rw [← HRL.out.law]; unfold parL; rw [if_pos h1], rfl, rfl, rfl, rfl, HPM.out.pq.below ((Below.refl _ w5).alloc (Nat.le_refl _) _), (HPM.out.alloc _).cr.keep (fun _ _ _ _ _ => rfl) (.inl rfl) (.inr fun g e => by cases e), (HPM.out.alloc _).bel, HPM.out.le.1, (HPM.out.alloc _).er⟩
      by_cases h4 : x.kind = 4
      · have HV : Hid (itemV x = .agg #[.int .i64 4, .int .i64 P, .string T]) := Lib.hid (by unfold itemV; rw [hP, hT, h4]; rfl)
        go_wp2_with (first | (go_at_call 101; (try rw [hz]); (with_reducible refine HTK.out.mono ?_); rintro e w5 ⟨hok, _⟩; obtain ⟨rfl, hpm, hit, hsz, hkp⟩ := hok (by rw [h4]; decide); rw [HV.out]; have HPM := Lib.hid hpm; have HITr := Lib.hid hit; clear hok hpm hit hkp; dsimp only) | (at_builtin; refine wpList_append_own_at _ rfl _ _ 32 rfl w.heap.size 9 i0 (.string ⟨#[]⟩) 1 16 Tryz.underlying32 hi hz0 hz1 hz2 rfl (by decide) u6 cm.length (cm.map Value.string) rfl ((HPM.out.alloc _).alloc _).cmr ⟨w5.heap.size + 1, 0, none⟩ 1 1 [.string T] rfl rfl (by have := cell_one_new (w5.alloc (.cells #[.int .i64 4, .int .i64 P, .string T] 169)) (.string T) 9; simpa using this) (by intro u hu; simp at hu; subst hu; rfl) (by have := HRL.out.b1; simp at this; unfold maxLen; omega) (by have := HRL.out.b1; simp at this; omega) (by have := HPM.out.bel.size; simp; omega) ?_; intro v' w6 hown6 hgr6 _ hsh6; have HO6 := Lib.hid hown6; have HG6 := Lib.hid hgr6; have HH6 := Lib.hid hsh6; clear hown6 hgr6 hsh6))
        obtain ⟨hne1, hwf1⟩ := wfI_next HRL.out.wf (by omega)
        have HR2 : Hid (RL w s o e0 qb lb g pb mb mc r (cm ++ [T]) p n nc DC lv v' w6) := Lib.hid (by
          have H := HRL.out
          have h9 := ((HPM.out.alloc (.cells #[.int .i64 4, .int .i64 P, .string T] 169)).alloc (.cells #[.string T] 9))
          have b1 := H.b1
          have b2 := H.b2
          have b3 := H.b3
          have b4 := H.b4
          simp at b1 b2 b3 b4
          refine ⟨h9.addCm T HO6.out HG6.out HH6.out, ((((HITr.out hne1).alloc _).alloc _).grown h9.cmr HG6.out), hwf1, ?_, fun x hx => H.txt x (List.mem_cons_of_mem _ hx), by simp; omega, by omega, by omega, by omega⟩
          have e := H.law
          unfold parL at e
          rw [if_neg h1, if_pos h4, hT] at e
          exact e)
        go_roundg r.length
        case measure => simp
        case rel => exact ⟨r, cm ++ [T], p, n, nc, DC, lv, rfl, HR2⟩
      have h2 : x.kind = 2 := by omega
      have HV : Hid (itemV x = .agg #[.int .i64 2, .int .i64 P, .string T]) := Lib.hid (by unfold itemV; rw [hP, hT, h2]; rfl)
      obtain ⟨hne1, hwf1⟩ := wfI_next HRL.out.wf (by omega)
      obtain ⟨y, r2, rfl⟩ : ∃ y r2, r = y :: r2 := by
        cases r with
        | nil => exact absurd rfl hne1
        | cons y r2 => exact ⟨y, r2, rfl⟩
      obtain ⟨G, cap, hshp⟩ := HRL.out.pm.shp
      obtain ⟨L, hL⟩ : ∃ L, cm.length = L := ⟨_, rfl⟩
      rw [hL] at hshp
      subst hshp
      have hTs : T.size ≤ maxLen := by
        have := HRL.out.txt x List.mem_cons_self
        rw [hT] at this
        unfold maxLen
        omega
      obtain ⟨hb, hhb⟩ : ∃ hb, Maps.has p.D (.string T.data.toList) = hb := ⟨_, rfl⟩
      have HHB : Hid (Maps.has p.D (keyL8 T) = hb) := Lib.hid hhb
      cases hb
      case' true =>
        go_wp2_with (first | (go_at_call 101; (try rw [hz]); (with_reducible refine HTK.out.mono ?_); rintro e w5 ⟨hok, _⟩; obtain ⟨rfl, hpm, hit, hsz, hkp⟩ := hok (by rw [h2]; decide); rw [HV.out]; have c3 := (fun o => (pq_cells (hpm.alloc o).pq).1); have c5 := (fun o => (pq_cells (hpm.alloc o).pq).2.2.1); have HPM := Lib.hid hpm; have HITr := Lib.hid (hit hne1); clear hok hpm hit hkp; dsimp only) | (at_lookup; refine wpList_lookup_own_ok _ rfl _ _ 62 rfl 9 9 lawS Tryz.underlying62 (plainElem Tryz.prog 9) (zeroS _) (.lit (.string [])) [] (plainElem_string Tryz.underlying9 (by unfold maxLen; decide)) mb n p.D rfl (HPM.out.alloc _).pq.mp _ _ rfl (WideMaps.keyOf_string_mk Tryz.underlying9 hTs) ?_; intro v0 ps0 hv0; rw [hhb]))
        obtain ⟨D, hD⟩ : ∃ D, w5.heap.size = D := ⟨_, rfl⟩
        have hDn := heap_alloc_new w5 (.cells #[.int .i64 2, .int .i64 P, .string T] 169)
        rw [hD] at hDn
        have hpw := HPM.out.alloc (.cells #[.int .i64 2, .int .i64 P, .string T] 169)
        have hiw := HITr.out.alloc (.cells #[.int .i64 2, .int .i64 P, .string T] 169)
        obtain ⟨W, hW⟩ : ∃ W, w5.alloc (.cells #[.int .i64 2, .int .i64 P, .string T] 169) = W := ⟨_, rfl⟩
        have hg : g ≠ D := fun e => by have := HITr.out.lt.2; omega
        rw [hW] at hDn hpw hiw
        (try rw [hD]); rw [hW]
        have HPW : Hid (PM w e0 qb lb pb mb mc n nc (addK p T) DC lv (.slice (some ⟨G, 0, none⟩) L cap) cm W) := Lib.hid (by unfold addK; rw [HHB.out]; exact hpw)
        have HITW := Lib.hid hiw
        have HDW := Lib.hid hDn
        have hWs : W.heap.size = D + 1 := by rw [← hW]; simp [hD]
        have HTK3 := Lib.hid (HPW.out.take HITW.out [3, 1] #[.int .i64 3, .int .i64 1] 2 rfl (by omega) (fun i k hk => by
          match i, hk with
          | 0, hk => simp at hk; subst hk; rfl
          | 1, hk => simp at hk; subst hk; rfl
          | (i + 2), hk => simp at hk))
        rw [hWs] at HTK3
        obtain ⟨E, hE⟩ : ∃ E, D + 1 = E := ⟨_, rfl⟩
        rw [hE] at HTK3 hWs ⊢
        have hkl : (addK p T).ks.length ≤ p.ks.length + 1 := by unfold addK; rw [HHB.out]; exact Nat.le_succ _
        clear hpw hiw hDn hW c3 c5 hv0
      case' false =>
        go_wp2_with (first | (go_at_call 101; (try rw [hz]); (with_reducible refine HTK.out.mono ?_); rintro e w5 ⟨hok, _⟩; obtain ⟨rfl, hpm, hit, hsz, hkp⟩ := hok (by rw [h2]; decide); rw [HV.out]; have c3 := (fun o => (pq_cells (hpm.alloc o).pq).1); have c5 := (fun o => (pq_cells (hpm.alloc o).pq).2.2.1); have HPM := Lib.hid hpm; have HITr := Lib.hid (hit hne1); clear hok hpm hit hkp; dsimp only) | (at_lookup; refine wpList_lookup_own_ok _ rfl _ _ 62 rfl 9 9 lawS Tryz.underlying62 (plainElem Tryz.prog 9) (zeroS _) (.lit (.string [])) [] (plainElem_string Tryz.underlying9 (by unfold maxLen; decide)) mb n p.D rfl (HPM.out.alloc _).pq.mp _ _ rfl (WideMaps.keyOf_string_mk Tryz.underlying9 hTs) ?_; intro v0 ps0 hv0; rw [hhb]) | (at_builtin; refine wpList_append_own_at _ rfl _ _ 32 rfl w.heap.size 9 i0 (.string ⟨#[]⟩) 1 16 Tryz.underlying32 hi hz0 hz1 hz2 rfl (by decide) lv p.ks.length (p.ks.map Value.string) rfl ((HPM.out.alloc _).alloc _).pq.row ⟨w5.heap.size + 1, 0, none⟩ 1 1 [.string T] rfl rfl (by have := cell_one_new (w5.alloc (.cells #[.int .i64 2, .int .i64 P, .string T] 169)) (.string T) 9; simpa using this) (by intro u hu; simp at hu; subst hu; rfl) (by have := HRL.out.b2; simp at this; unfold maxLen; omega) (by have := HRL.out.b2; simp at this; omega) (by have := HPM.out.bel.size; simp; omega) ?_; intro lv' w6 hown6 hgr6 _ hsh6; obtain ⟨g9, cap9, rfl⟩ := row_sl hown6; have HO6 := Lib.hid hown6; have HG6 := Lib.hid hgr6; have HH6 := Lib.hid hsh6; obtain ⟨hpb6, y5, z5⟩ := ((HPM.out.alloc (.cells #[.int .i64 2, .int .i64 P, .string T] 169)).alloc (.cells #[.string T] 9)).keyBlk hgr6; have HPB6 := Lib.hid hpb6; clear hpb6; clear hown6 hgr6 hsh6))
        obtain ⟨D, hD⟩ : ∃ D, w5.heap.size = D := ⟨_, rfl⟩
        have hDn := heap_alloc_new w5 (.cells #[.int .i64 2, .int .i64 P, .string T] 169)
        rw [hD] at hDn
        have h59 := ((HPM.out.alloc (.cells #[.int .i64 2, .int .i64 P, .string T] 169)).alloc (.cells #[.string T] 9))
        have hDn2 := (HG6.out.block D (by simp [hD]; omega) (fun e => by
          obtain ⟨cs, h3⟩ := row_cells h59.pq.row e.symm
          have h4 := (Below.heap_alloc (w5.alloc (.cells #[.int .i64 2, .int .i64 P, .string T] 169)) (.cells #[.string T] 9) D (by simp [hD])).trans hDn
          exact ne_ty h4 h3 (by decide) rfl)).trans ((Below.heap_alloc (w5.alloc (.cells #[.int .i64 2, .int .i64 P, .string T] 169)) (.cells #[.string T] 9) D (by simp [hD])).trans hDn)
        have hDn3 := (Below.heap_setCell w6 ⟨pb, 5, none⟩ (.slice (some ⟨g9, 0, none⟩) (p.ks.length + 1) cap9) D (ne_ty hDn2 HPB6.out (by decide))).trans hDn2
        have hpw := h59.addKey T HO6.out HG6.out HH6.out
        have hiw := (((HITr.out.alloc (.cells #[.int .i64 2, .int .i64 P, .string T] 169)).alloc (.cells #[.string T] 9)).grown h59.pq.row HG6.out).setPb (i := 5) (u := .slice (some ⟨g9, 0, none⟩) (p.ks.length + 1) cap9) HPB6.out
        obtain ⟨W, hW⟩ : ∃ W, w6.setCell ⟨pb, 5, none⟩ (.slice (some ⟨g9, 0, none⟩) (p.ks.length + 1) cap9) = W := ⟨_, rfl⟩
        have hg : g ≠ D := fun e => by have := HITr.out.lt.2; omega
        rw [hW] at hDn3 hpw hiw
        (try rw [hD]); rw [hW]
        have HPW : Hid (PM w e0 qb lb pb mb mc n nc (addK p T) DC (.slice (some ⟨g9, 0, none⟩) (p.ks.length + 1) cap9) (.slice (some ⟨G, 0, none⟩) L cap) cm W) := Lib.hid (by unfold addK; rw [HHB.out]; exact hpw)
        have HITW := Lib.hid hiw
        have HDW := Lib.hid hDn3
        have hWs : W.heap.size = w6.heap.size := by rw [← hW]; simp [World.setCell]
        have HTK3 := Lib.hid (HPW.out.take HITW.out [3, 1] #[.int .i64 3, .int .i64 1] 2 rfl (by omega) (fun i k hk => by
          match i, hk with
          | 0, hk => simp at hk; subst hk; rfl
          | 1, hk => simp at hk; subst hk; rfl
          | (i + 2), hk => simp at hk))
        rw [hWs] at HTK3
        obtain ⟨E, hE⟩ : ∃ E, w6.heap.size = E := ⟨_, rfl⟩
        rw [hE] at HTK3 hWs ⊢
        have hkl : (addK p T).ks.length ≤ p.ks.length + 1 := by unfold addK; rw [HHB.out]; simp
        clear hpw hiw hDn hDn2 hDn3 h59 hW c3 c5 hv0 y5 z5
      all_goals
        obtain ⟨PY, hPY⟩ : ∃ P : Int, (y.pos : Int) = P := ⟨_, rfl⟩
        obtain ⟨TY, hTY⟩ : ∃ T, y.text = T := ⟨_, rfl⟩
        have hTYs : TY.size ≤ maxLen := by
          have := HRL.out.txt y (List.mem_cons_of_mem _ List.mem_cons_self)
          rw [hTY] at this
          unfold maxLen
          omega
        have hDl : D ≠ lb := by
          obtain ⟨c9, h9⟩ := HITW.out.lex
          exact ne_ty HDW.out h9 (by decide)
        have hDlt : D < W.heap.size := lx_lt HDW.out
        by_cases hy : ¬ (y.kind = 1 ∨ y.kind = 3)
        · refine HTK3.out.mono ?_
          rintro e w7 ⟨_, hbad⟩
          obtain ⟨N, rfl, hb5, hb6⟩ := hbad (by intro h; simp at h; omega)
          have ho : o = none := by
            rw [← HRL.out.law]
            unfold parL
            rw [if_neg h1, if_neg h4, if_pos h2]
            dsimp only
            rw [if_neg (by omega), if_neg (by omega)]
          subst ho
          have he := HRL.out.pm.le.1
          change bodyPostD Tryz.prog Tryz.f86 (ParPost none w) (Exit.panic [{ v := .iface 196 (.pointer (some ⟨N, 0, none⟩)), recovered := false }]) _ _
          exact door_pan w e0 qb pb N _ _ rfl rfl rfl rfl he hb5 hb6
        · obtain ⟨KY, hKY⟩ : ∃ K : Int, (y.kind : Int) = K := ⟨_, rfl⟩
          have HVY : Hid (itemV y = .agg #[.int .i64 KY, .int .i64 PY, .string TY]) := Lib.hid (by unfold itemV; rw [hPY, hTY, hKY])
          refine HTK3.out.mono ?_
          rintro e w7 ⟨hok, _⟩
          obtain ⟨rfl, hpm, hit, hsz, hkp⟩ := hok (by simp; omega)
          have hd7 := (hkp D (by omega) hDl).trans HDW.out
          obtain ⟨k0, k1, k2, k3, k4, k5⟩ := tok_cells hd7
          obtain ⟨W8, hW8, hd8, hs8, hk8, hb8⟩ := tok_set hd7 (.int .i64 KY) (.int .i64 PY) (.string TY)
          have hpm8 := hpm.tok hd7 hs8 hk8 (hpm.bel.trans (hb8 _ (by have := HPM.out.bel.size; omega)))
          obtain ⟨l0, l1, l2, _, _, _⟩ := tok_cells hd8
          obtain ⟨l3, l4, _, _⟩ := pq_cells hpm8.pq
          have HPM8 := Lib.hid hpm8
          have HIT8 : Hid (r2 ≠ [] → IT lb g s r2 W8) := Lib.hid (fun hr => (hit hr).keep (hk8 lb (fun e => hDl e.symm)) (hk8 g hg))
          have HD8 := Lib.hid hd8
          have B1 := HRL.out.b1
          have B2 := HRL.out.b2
          have B3 := HRL.out.b3
          have B4 := HRL.out.b4
          simp at B1 B2 B3 B4
          clear hok hpm hit hkp hd7 hd8 hk8 hb8 hpm8
          rw [HVY.out]
          dsimp only
          by_cases hy1 : y.kind = 1
          · have hlaw : o = some (putV (addC (addK p T) T cm) T emptyB) := by
              have e := HRL.out.law
              unfold parL at e
              rw [if_neg h1, if_neg h4, if_pos h2] at e
              dsimp only at e
              rw [if_pos hy1, hT] at e
              exact e.symm
            obtain rfl : KY = 1 := by omega
            by_cases hL0 : L = 0
            · obtain rfl : cm = [] := List.length_eq_zero_iff.1 (by omega)
              subst hL0
              go_wp2_with (first | (rw [hW8]) | (at_mapUpdate; refine wpList_mapUpdate_own _ rfl _ _ _ 62 rfl 9 9 lawS Tryz.underlying62 (plainElem Tryz.prog 9) mb n _ rfl HPM8.out.pq.mp (by have := HRL.out.b3; unfold maxLen; omega) _ _ _ rfl rfl (WideMaps.keyOf_string_mk Tryz.underlying9 hTs) _ [] (plainElem_string Tryz.underlying9 (by show (0 : Nat) ≤ _; omega)) ?_; intro w11 ho11 hg11; have HPF := Lib.hid (HPM8.out.putD T emptyB ho11 hg11); have HGF := Lib.hid hg11; clear ho11 hg11))
              go_step3
              exact ⟨rfl, putV (addK p T) T emptyB, pb, mb, mc, n + 1, nc, DC, _, qb, hlaw, rfl, rfl, rfl, rfl, HPF.out.pq, HPF.out.cr.keep (fun _ _ _ _ _ => rfl) (.inl rfl) (.inr fun g e => by cases e), HPF.out.bel, HPF.out.le.1, HPF.out.er⟩
            · have hLp : (0 : Int) < (L : Int) := by omega
              have hcm : cm ≠ [] := fun e => hL0 (by rw [← hL, e]; rfl)
              unfold addC at hlaw
              rw [if_neg hcm] at hlaw
              go_wp2_with (first | (rw [hW8]) | (at_mapUpdate; refine wpList_mapUpdate_own _ rfl _ _ _ 63 rfl 9 32 lawS Tryz.underlying63 rawR mc nc DC rfl HPM8.out.pq.cp (by have := HRL.out.b4; unfold maxLen; omega) _ _ _ rfl rfl (WideMaps.keyOf_string_mk Tryz.underlying9 hTs) _ [] rfl ?_; intro w9 ho9 hg9; have HPM9 := Lib.hid (HPM8.out.putC T ho9 hg9); have HIT9 := Lib.hid (fun hr => ((HIT8.out hr).grownM (mpc_is HPM8.out.pq.cp) hg9).alloc (.cells #[] 9)); have hd9 := (Below.heap_alloc w9 (.cells #[] 9) D (Nat.lt_of_lt_of_le (lx_lt HD8.out) hg9.size)).trans ((hg9.block D (lx_lt HD8.out) (fun e => ne_map (mpc_is HPM8.out.pq.cp) HD8.out (Option.some.inj e).symm)).trans HD8.out); obtain ⟨a0, a1, a2, _, _, _⟩ := tok_cells hd9; obtain ⟨a3, _, _, _⟩ := pq_cells HPM9.out.pq; obtain ⟨E9, hE9⟩ : ∃ E9, w9.heap.size = E9 := ⟨_, rfl⟩; obtain ⟨W10, hW10⟩ : ∃ W10, w9.alloc (.cells #[] 9) = W10 := ⟨_, rfl⟩; rw [hW10] at HPM9 HIT9 a0 a1 a2 a3; rw [hE9] at HPM9; clear hd9 ho9 hg9) | (rw [hW10]) | (rw [hE9]) | (at_mapUpdate; refine wpList_mapUpdate_own _ rfl _ _ _ 62 rfl 9 9 lawS Tryz.underlying62 (plainElem Tryz.prog 9) mb n _ rfl HPM9.out.pq.mp (by have := HRL.out.b3; unfold maxLen; omega) _ _ _ rfl rfl (WideMaps.keyOf_string_mk Tryz.underlying9 hTs) _ [] (plainElem_string Tryz.underlying9 (by show (0 : Nat) ≤ _; omega)) ?_; intro w11 ho11 hg11; have HPF := Lib.hid (HPM9.out.putD T emptyB ho11 hg11); have HGF := Lib.hid hg11; clear ho11 hg11))
              go_step3
              exact ⟨rfl, _, pb, mb, mc, n + 1, nc + 1, _, _, qb, hlaw, rfl, rfl, rfl, rfl, HPF.out.pq, HPF.out.cr.keep (fun _ _ _ _ _ => rfl) (.inl rfl) (.inr fun g e => by cases e), HPF.out.bel, HPF.out.le.1, HPF.out.er⟩
          · have hy3 : y.kind = 3 := by omega
            have hlaw : parL r2 [] (putV (addC (addK p T) T cm) T TY) = o := by
              have e := HRL.out.law
              unfold parL at e
              rw [if_neg h1, if_neg h4, if_pos h2] at e
              dsimp only at e
              rw [if_neg hy1, if_pos hy3, hT, hTY] at e
              exact e
            obtain rfl : KY = 3 := by omega
            obtain ⟨hne2, hwf2⟩ := wfI_next hwf1 (by omega)
            have htx : ∀ x ∈ r2, x.text.size ≤ 10000000 := fun x hx => HRL.out.txt x (List.mem_cons_of_mem _ (List.mem_cons_of_mem _ hx))
            by_cases hL0 : L = 0
            · obtain rfl : cm = [] := List.length_eq_zero_iff.1 (by omega)
              subst hL0
              go_wp2_with (first | (rw [hW8]))
              go_still_tail 7, (by kernel_rfl)
              obtain ⟨V9, hV9⟩ : ∃ V : World, ({ heap := W8.heap, tape := W8.tape, drawn := W8.drawn + 1, os := W8.os, output := W8.output } : World) = V := ⟨_, rfl⟩
              have hbV : Below W8.heap.size W8 V9 := by rw [← hV9]; exact Below.drew (Below.refl _ W8)
              rw [hV9]
              have HPV := Lib.hid (HPM8.out.below hbV)
              have HITV := Lib.hid ((HIT8.out hne2).below hbV)
              clear hbV hV9
              go_wp2_with (at_mapUpdate; refine wpList_mapUpdate_own _ rfl _ _ _ 62 rfl 9 9 lawS Tryz.underlying62 (plainElem Tryz.prog 9) mb n _ rfl HPV.out.pq.mp (by have := HRL.out.b3; unfold maxLen; omega) _ _ _ rfl rfl (WideMaps.keyOf_string_mk Tryz.underlying9 hTs) _ [] (plainElem_string Tryz.underlying9 hTYs) ?_; intro w11 ho11 hg11; have HPF := Lib.hid (HPV.out.putD T TY ho11 hg11); have HGF := Lib.hid hg11; clear ho11 hg11)
              have HR2 : Hid (RL w s o e0 qb lb g pb mb mc r2 [] (putV (addK p T) T TY) (n + 1) nc DC _ (.slice (some ⟨G, 0, none⟩) 0 cap) w11) := Lib.hid ⟨HPF.out, HITV.out.grownM (mp_is HPV.out.pq.mp) HGF.out, hwf2, hlaw, htx, by simp; omega, by show (addK p T).ks.length + _ ≤ _; omega, by omega, by omega⟩
              go_roundg r2.length
              case measure => simp; omega
              case rel => exact ⟨r2, [], _, _, _, _, _, rfl, HR2⟩
            · have hLp : (0 : Int) < (L : Int) := by omega
              have hcm : cm ≠ [] := fun e => hL0 (by rw [← hL, e]; rfl)
              unfold addC at hlaw
              rw [if_neg hcm] at hlaw
              go_wp2_with (first | (rw [hW8]) | (at_mapUpdate; refine wpList_mapUpdate_own _ rfl _ _ _ 63 rfl 9 32 lawS Tryz.underlying63 rawR mc nc DC rfl HPM8.out.pq.cp (by have := HRL.out.b4; unfold maxLen; omega) _ _ _ rfl rfl (WideMaps.keyOf_string_mk Tryz.underlying9 hTs) _ [] rfl ?_; intro w9 ho9 hg9; have HPM9 := Lib.hid (HPM8.out.putC T ho9 hg9); have HIT9 := Lib.hid (fun hr => ((HIT8.out hr).grownM (mpc_is HPM8.out.pq.cp) hg9).alloc (.cells #[] 9)); have hd9 := (Below.heap_alloc w9 (.cells #[] 9) D (Nat.lt_of_lt_of_le (lx_lt HD8.out) hg9.size)).trans ((hg9.block D (lx_lt HD8.out) (fun e => ne_map (mpc_is HPM8.out.pq.cp) HD8.out (Option.some.inj e).symm)).trans HD8.out); obtain ⟨a0, a1, a2, _, _, _⟩ := tok_cells hd9; obtain ⟨a3, _, _, _⟩ := pq_cells HPM9.out.pq; obtain ⟨E9, hE9⟩ : ∃ E9, w9.heap.size = E9 := ⟨_, rfl⟩; obtain ⟨W10, hW10⟩ : ∃ W10, w9.alloc (.cells #[] 9) = W10 := ⟨_, rfl⟩; rw [hW10] at HPM9 HIT9 a0 a1 a2 a3; rw [hE9] at HPM9; clear hd9 ho9 hg9) | (rw [hW10]) | (rw [hE9]))
              go_still_tail 7, (by kernel_rfl)
              obtain ⟨V9, hV9⟩ : ∃ V : World, ({ heap := W10.heap, tape := W10.tape, drawn := W10.drawn + 1, os := W10.os, output := W10.output } : World) = V := ⟨_, rfl⟩
              have hbV : Below W10.heap.size W10 V9 := by rw [← hV9]; exact Below.drew (Below.refl _ W10)
              rw [hV9]
              have HPV := Lib.hid (HPM9.out.below hbV)
              have HITV := Lib.hid ((HIT9.out hne2).below hbV)
              clear hbV hV9
              go_wp2_with (at_mapUpdate; refine wpList_mapUpdate_own _ rfl _ _ _ 62 rfl 9 9 lawS Tryz.underlying62 (plainElem Tryz.prog 9) mb n _ rfl HPV.out.pq.mp (by have := HRL.out.b3; unfold maxLen; omega) _ _ _ rfl rfl (WideMaps.keyOf_string_mk Tryz.underlying9 hTs) _ [] (plainElem_string Tryz.underlying9 hTYs) ?_; intro w11 ho11 hg11; have HPF := Lib.hid (HPV.out.putD T TY ho11 hg11); have HGF := Lib.hid hg11; clear ho11 hg11)
              have HR2 : Hid (RL w s o e0 qb lb g pb mb mc r2 [] (putV { (addK p T) with cf := updC (addK p T).cf T cm } T TY) (n + 1) (nc + 1) _ _ (.slice (some ⟨E9, 0, none⟩) 0 0) w11) := Lib.hid ⟨HPF.out, HITV.out.grownM (mp_is HPV.out.pq.mp) HGF.out, hwf2, hlaw, htx, by simp; omega, by show (addK p T).ks.length + _ ≤ _; omega, by omega, by omega⟩
              go_roundg r2.length
              case measure => simp; omega
              case rel => exact ⟨r2, [], _, _, _, _, _, rfl, HR2⟩
end Go.Proofs.YtgmhigjhooihdaaGreatDoor

set_option linter.unusedVariables false
namespace Go.Proofs.YtgmhigjhooihdaaGreatDoor
open Go.RowKit Plain Go.Maps

/-- a text's bytes as numbers -/
def numsB (s : ByteArray) : List Int := s.data.toList.map fun b => (b.toNat : Int)
theorem numsB_len (s : ByteArray) : (numsB s).length = s.size := by unfold numsB; rw [List.length_map, ← Lib.size_eq]
theorem bytesOf_numsB (s : ByteArray) : Lib.bytesOf (numsB s) = s.data.toList := by
  unfold Lib.bytesOf numsB
  rw [List.map_map]
  conv => rhs; rw [← List.map_id s.data.toList]
  refine List.map_congr_left fun b _ => ?_
  simp
/-- the mark at a text's front -/
def bomB (s : ByteArray) : Bool := Lib.hasPrefix s.data.toList [239, 187, 191]
def bomK (s : ByteArray) : Nat := if bomB s then 3 else 0
/-- a text without the mark -/
def unbom (s : ByteArray) : ByteArray := ⟨(s.data.toList.drop (bomK s)).toArray⟩
theorem bomK_le (s : ByteArray) : bomK s ≤ s.size := by
  unfold bomK
  split
  · rename_i h
    unfold bomB Lib.hasPrefix at h
    have := (List.isPrefixOf_iff_prefix.1 h).length_le
    rw [Lib.size_eq]
    simpa using this
  · exact Nat.zero_le _
theorem unbom_size (s : ByteArray) : (unbom s).size ≤ s.size := by
  rw [Lib.size_eq, Lib.size_eq s]
  unfold unbom
  simp
theorem unbom_no {s : ByteArray} (h : bomB s = false) : unbom s = s := by
  unfold unbom bomK
  rw [h]
  simp
theorem strOfNums_drop (s : ByteArray) (k : Nat) : strOfNums ((numsB s).drop k) = ⟨(s.data.toList.drop k).toArray⟩ := by
  have e : ((numsB s).drop k).map (fun n => UInt8.ofNat n.toNat) = s.data.toList.drop k := by
    rw [List.map_drop]
    have := bytesOf_numsB s
    unfold Lib.bytesOf at this
    rw [this]
  unfold strOfNums
  rw [e]
/-- what TrimPrefix hands back -/
theorem trim_bom (s : ByteArray) (b c : Nat) : ∃ o', Lib.trimPrefixV (some ⟨b, 0, none⟩) s.size c (numsB s) [239, 187, 191] = .slice (some ⟨b, o', none⟩) (s.size - bomK s) (c - bomK s) ∧ (bomK s < s.size → s.size ≤ c → o' = bomK s) := by
  unfold Lib.trimPrefixV Lib.bytesTrimPrefix
  have e : Lib.hasPrefix (Lib.bytesOf (numsB s)) (Lib.bytesOf [239, 187, 191]) = bomB s := by rw [bytesOf_numsB]; rfl
  dsimp only
  rw [e]
  unfold bomK
  cases hb : bomB s with
  | false => exact ⟨0, rfl, fun _ _ => rfl⟩
  | true =>
    simp only [if_true]
    unfold Lib.sliceFrom
    by_cases hc : c = 3
    · refine ⟨0, by simp [hc], fun h1 h2 => by omega⟩
    · refine ⟨3, by simp [hc], fun _ _ => rfl⟩
set_option maxRecDepth 100000 in
/-- bytes of UTF-8 are their text -/
theorem convert_any (b o n c : Nat) (xs : List Int) (enc : Int) (w : World) (hx : xs.length = n) (he : enc = 0 ∨ enc = 1) (hc : ∀ i, i < n → w.cell? ⟨b, o + i, none⟩ = some (.int .u8 (xs.getD i 0))) :
    Calls Tryz.prog 87 #[.slice (some ⟨b, o, none⟩) n c, .int .u64 enc] w fun e w' => e = .returned (.string (strOfNums xs)) ∧ w' = w := by
  have hcv := run_convert_bytes_arg (P := Tryz.prog) w 83 5 Tryz.underlying83 Tryz.underlying5 b o n c xs hx hc 9 Tryz.underlying9
  clear hc hx
  rcases he with rfl | rfl
  · go_enter Tryz.func87, Tryz.ntmps87
    go_wp2
    go_ret
    exact ⟨rfl, rfl⟩
  · go_enter Tryz.func87, Tryz.ntmps87
    go_wp2
    go_ret
    exact ⟨rfl, rfl⟩
/-- what loading gives: nothing and an error, or properties in memory -/
def LdPost (o : Option PSt) (w : World) (e : Ending) (w' : World) : Prop :=
  match o with
  | some p => ∃ pb mb mc n nc DC lv, e = .returned (.tuple #[.pointer (some ⟨pb, 0, none⟩), .nilIface]) ∧ LP w.heap.size pb mb mc n nc p DC lv true w' ∧ Below w.heap.size w w'
  | none => ∃ N : Nat, e = .returned (.tuple #[.pointer none, .iface 196 (.pointer (some ⟨N, 0, none⟩))]) ∧ Below w.heap.size w w'
theorem LP.base {B B' pb mb mc n nc : Nat} {p : PSt} {DC : DataW Value} {lv : Value} {dis : Bool} {w : World} (h : LP B pb mb mc n nc p DC lv dis w) (hb : B' ≤ B) : LP B' pb mb mc n nc p DC lv dis w :=
  ⟨h.blk, h.mp, h.cp, row_base h.row hb, fun k => ⟨(h.cr k).1, fun l hl => by
    obtain ⟨v, v1, v2, v3, v4⟩ := (h.cr k).2 l hl
    exact ⟨v, v1, v2, row_base v3 hb, v4⟩⟩, Nat.le_trans hb h.lo.1, Nat.le_trans hb h.lo.2.1, Nat.le_trans hb h.lo.2.2⟩
set_option maxHeartbeats 2000000 in
set_option maxRecDepth 100000 in
/-- loading without expansion -/
theorem loadBytes_plain (s : ByteArray) (lb b c : Nat) (w : World) (hs : s.size ≤ 100000) (hsc : s.size ≤ c) (hT : Tabs w) (c1 : w.cell? ⟨lb, 1, none⟩ = some (.bool true)) (hc : ∀ i, i < s.size → w.cell? ⟨b, i, none⟩ = some (.int .u8 ((numsB s).getD i 0))) (o : Option PSt) (ho : parL (lexL (unbom s)) [] pst0 = o) :
    Calls Tryz.prog 69 #[.pointer (some ⟨lb, 0, none⟩), .slice (some ⟨b, 0, none⟩) s.size c, .int .u64 1] w (LdPost o w) := by
  have hll := Lib.lt_of_cell c1
  obtain ⟨o', htr, ho'⟩ := trim_bom s b c
  obtain ⟨W, hW⟩ : ∃ W, w.alloc (.cells #[.int .u8 239, .int .u8 187, .int .u8 191] 5) = W := ⟨_, rfl⟩
  have hbW : Below w.heap.size w W := hW ▸ (Below.refl _ w).alloc (Nat.le_refl _) _
  have HTR := Lib.hid (trim_any (some ⟨b, 0, none⟩) (some ⟨w.heap.size, 0, none⟩) s.size c 3 3 (numsB s) [239, 187, 191] W (numsB_len s) rfl hsc (fun h0 => ⟨b, 0, rfl, fun i hi => by
    rw [Nat.zero_add]
    have h1 := hc i hi
    exact (hbW.cell (Lib.lt_of_cell h1)).trans h1⟩) (fun _ => ⟨w.heap.size, 0, rfl, fun i hi => by
    have h9 : W.heap[w.heap.size]? = _ := hW ▸ heap_alloc_new w _
    simp only [World.cell?, h9]
    match i, hi with
    | 0, _ => rfl
    | 1, _ => rfl
    | 2, _ => rfl⟩))
  rw [htr] at HTR
  have HCV := Lib.hid (convert_any b o' (s.size - bomK s) (c - bomK s) ((numsB s).drop (bomK s)) 1 W (by rw [List.length_drop, numsB_len]) (.inr rfl) (fun i hi => by
    have h1 := hc (bomK s + i) (by omega)
    rw [ho' (by omega) hsc]
    rw [(hbW.cell (Lib.lt_of_cell h1)).trans h1]
    simp [List.getD]))
  rw [strOfNums_drop] at HCV
  have HPA := Lib.hid (parse_any (unbom s) W (Nat.le_trans (unbom_size s) hs) (hT.below hbW) o ho)
  have d1 : ∀ y, Below w.heap.size w y → y.cell? ⟨lb, 1, none⟩ = some (.bool true) := fun y hy => (hy.cell hll).trans c1
  have HD1 := Lib.hid d1
  have HBW := Lib.hid hbW
  have hWs : W.heap.size = w.heap.size + 1 := by rw [← hW]; simp
  have HWW := Lib.hid hW
  obtain ⟨n1, hn1⟩ : ∃ n1, s.size - bomK s = n1 := ⟨_, rfl⟩
  obtain ⟨k1, hk1⟩ : ∃ n1, c - bomK s = n1 := ⟨_, rfl⟩
  obtain ⟨n0, hn0⟩ : ∃ n1, s.size = n1 := ⟨_, rfl⟩
  rw [hn1, hk1] at HTR HCV
  rw [hn0] at HTR ⊢
  change Hid (Calls _ _ _ _ fun e w' => e = .returned (.string (unbom s)) ∧ _) at HCV
  obtain ⟨U, hU⟩ : ∃ U, unbom s = U := ⟨_, rfl⟩
  rw [hU] at HCV HPA
  clear hc htr ho' d1 hbW hW hn1 hk1 hn0 hU hT c1
  cases o with
  | none =>
    go_enter Tryz.func69, Tryz.ntmps69
    go_wp2_with (first
      | (go_at_call 85; rw [HWW.out]; (with_reducible refine HTR.out.mono ?_); rintro e w1 ⟨rfl, rfl⟩; dsimp only)
      | (go_at_call 87; (with_reducible refine HCV.out.mono ?_); rintro e w1 ⟨rfl, rfl⟩; dsimp only)
      | (go_at_call 86; (with_reducible refine HPA.out.mono ?_); rintro e w2 ⟨P, N, rfl, hb2⟩; have HB2 := Lib.hid hb2; clear hb2; dsimp only))
    go_ret2
    exact ⟨N, rfl, bthen HBW.out HB2.out⟩
  | some p =>
    go_enter Tryz.func69, Tryz.ntmps69
    go_wp2_with (first
      | (go_at_call 85; rw [HWW.out]; (with_reducible refine HTR.out.mono ?_); rintro e w1 ⟨rfl, rfl⟩; dsimp only)
      | (go_at_call 87; (with_reducible refine HCV.out.mono ?_); rintro e w1 ⟨rfl, rfl⟩; dsimp only)
      | (go_at_call 86; (with_reducible refine HPA.out.mono ?_); rintro e w2 ⟨pb, mb, mc, n, nc, DC, lv, rfl, hpq, hcr, hb2⟩; have HB2 := Lib.hid hb2; have HPQ := Lib.hid hpq; have HCR := Lib.hid hcr; have e1 := HD1.out w2 (bthen HBW.out hb2); obtain ⟨_, _, _, _, f2, _⟩ := seven_cells hpq.blk; clear hb2 hpq hcr; dsimp only))
    go_ret2
    have hsz := HBW.out.size
    exact ⟨pb, mb, mc, n, nc, DC, lv, rfl, (LP.of true HPQ.out HCR.out).base hsz, (bthen HBW.out HB2.out).setCell (p := ⟨pb, 2, none⟩) (Nat.le_trans hsz HPQ.out.lo.1) _⟩
set_option maxRecDepth 100000 in
theorem loadBytesU_plain (s : ByteArray) (lb b c : Nat) (w : World) (hs : s.size ≤ 100000) (hsc : s.size ≤ c) (hT : Tabs w) (c0 : w.cell? ⟨lb, 0, none⟩ = some (.int .u64 1)) (c1 : w.cell? ⟨lb, 1, none⟩ = some (.bool true)) (hc : ∀ i, i < s.size → w.cell? ⟨b, i, none⟩ = some (.int .u8 ((numsB s).getD i 0))) (o : Option PSt) (ho : parL (lexL (unbom s)) [] pst0 = o) :
    Calls Tryz.prog 42 #[.pointer (some ⟨lb, 0, none⟩), .slice (some ⟨b, 0, none⟩) s.size c] w (LdPost o w) := by
  have HLB := Lib.hid (loadBytes_plain s lb b c w hs hsc hT c1 hc o ho)
  obtain ⟨n0, hn0⟩ : ∃ n1, s.size = n1 := ⟨_, rfl⟩
  rw [hn0] at HLB ⊢
  clear hc hT c1 hs hsc hn0 ho
  cases o with
  | none =>
    go_enter Tryz.func42, Tryz.ntmps42
    go_wp2_with (go_at_call 69; (with_reducible refine HLB.out.mono ?_); rintro e w2 ⟨N, rfl, hb2⟩; have HB2 := Lib.hid hb2; clear hb2; dsimp only)
    go_ret2
    exact ⟨N, rfl, HB2.out⟩
  | some p =>
    go_enter Tryz.func42, Tryz.ntmps42
    go_wp2_with (go_at_call 69; (with_reducible refine HLB.out.mono ?_); rintro e w2 ⟨pb, mb, mc, n, nc, DC, lv, rfl, hlp, hb2⟩; have HB2 := Lib.hid hb2; have HLP := Lib.hid hlp; clear hb2 hlp; dsimp only)
    go_ret2
    exact ⟨pb, mb, mc, n, nc, DC, lv, rfl, HLP.out, HB2.out⟩
def LpPost (o : Option PSt) (w : World) (e : Ending) (w' : World) : Prop :=
  Below w.heap.size w w' ∧ match o with
  | none => e = .returned (.tuple #[.slice none 0 0, .bool false])
  | some p => ∃ v, e = .returned (.tuple #[v, .bool true]) ∧ PRow w.heap.size v (p.ks.map (dataOf p (rawOf p.D))) w'
theorem numsB_cell (s : ByteArray) (w : World) (i : Nat) (hi : i < s.size) : (Lib.bytesWorld w 5 s).cell? ⟨w.heap.size, i, none⟩ = some (.int .u8 ((numsB s).getD i 0)) := by
  rw [Lib.bytesWorld_cell _ _ _ _ hi]
  unfold numsB
  have hi' : i < s.data.toList.length := by rw [← Lib.size_eq]; exact hi
  simp only [List.getD, List.getElem?_map, List.getElem?_eq_getElem hi', Option.map_some, Option.getD_some]
set_option maxHeartbeats 2000000 in
set_option maxRecDepth 100000 in
theorem loadProps_plain (s : ByteArray) (w : World) (hs : s.size ≤ 100000) (hT : Tabs w) (o : Option PSt) (ho : parL (lexL (unbom s)) [] pst0 = o) :
    Calls Tryz.prog 21 #[.string s, .int .i64 1, .bool true] w (LpPost o w) := by
  obtain ⟨W1, hW1⟩ : ∃ W, w.alloc (.cells #[.int .u64 1, .bool true, .bool false] 78) = W := ⟨_, rfl⟩
  have hb1 : Below w.heap.size w W1 := hW1 ▸ (Below.refl _ w).alloc (Nat.le_refl _) _
  have hs1 : W1.heap.size = w.heap.size + 1 := by rw [← hW1]; simp
  have hblk : W1.heap[w.heap.size]? = _ := hW1 ▸ heap_alloc_new w _
  obtain ⟨W2, hW2⟩ : ∃ W, Lib.bytesWorld W1 5 s = W := ⟨_, rfl⟩
  have hb2 : Below W1.heap.size W1 W2 := hW2 ▸ ⟨rfl, rfl, rfl, by rw [Lib.bytesWorld_size]; omega, fun j hj => Lib.bytesWorld_at_old W1 5 s j hj⟩
  obtain ⟨cap, hcap⟩ : ∃ c, grownCap W1 s.size 0 5 = c := ⟨_, rfl⟩
  have hcv := Lib.run_convert_string_bytes (P := Tryz.prog) W1 9 83 5 s Tryz.underlying9 Tryz.underlying83 Tryz.underlying5
  rw [hW2, hcap, hs1] at hcv
  have hcell : ∀ i, i < s.size → W2.cell? ⟨w.heap.size + 1, i, none⟩ = some (.int .u8 ((numsB s).getD i 0)) := fun i hi => by
    have := numsB_cell s W1 i hi
    rwa [hW2, hs1] at this
  have hblk2 : W2.heap[w.heap.size]? = _ := (hb2.block _ (by omega)).trans hblk
  have hb02 := bthen hb1 hb2
  have HLB := Lib.hid (loadBytesU_plain s w.heap.size (w.heap.size + 1) cap W2 hs (hcap ▸ grownCap_ge _ _ _ _) (hT.below hb02) (by simp [World.cell?, hblk2]) (by simp [World.cell?, hblk2]) hcell o ho)
  have HB02 := Lib.hid hb02
  have HW1 := Lib.hid hW1
  obtain ⟨n0, hn0⟩ : ∃ n1, s.size = n1 := ⟨_, rfl⟩
  rw [hn0] at hcv HLB
  have HBD : Hid (∀ p, o = some p → PBd 1000000 1000000 p) := Lib.hid (fun p hp => parL_small (unbom s) p (Nat.le_trans (unbom_size s) hs) (hp ▸ ho))
  clear hb1 hblk hb2 hcap hcell hblk2 hb02 hW1 hW2 hn0 hs hT ho hs1
  unfold LpPost
  cases o with
  | none =>
    go_enter Tryz.func21, Tryz.ntmps21
    go_wp2_with (first
      | (rw [HW1.out])
      | (go_at_call 42; (with_reducible refine HLB.out.mono ?_); rintro e w3 ⟨N, rfl, hb3⟩; have HB3 := Lib.hid hb3; clear hb3; dsimp only))
    go_ret2
    exact ⟨bthen HB02.out HB3.out, rfl⟩
  | some p =>
    have hbd := HBD.out p rfl
    go_enter Tryz.func21, Tryz.ntmps21
    go_wp2_with (first
      | (rw [HW1.out])
      | (go_at_call 42; (with_reducible refine HLB.out.mono ?_); rintro e w3 ⟨pb, mb, mc, n, nc, DC, lv, rfl, hlp, hb3⟩; have HB3 := Lib.hid hb3; have HLP := Lib.hid hlp; have HPR := Lib.hid (props_any W2.heap.size pb mb mc (Maps.size p.D) nc p DC lv true (rawOf p.D) w3 ⟨hlp.blk, mp_size hlp.mp, hlp.cp, hlp.row, hlp.cr, hlp.lo⟩ (by have := hbd.dn; omega) (by have := hbd.kn; omega) (fun k hk => by have := hbd.keys k hk; omega) (fun k l hl => by have := hbd.cn k l hl; omega) (fun k hk wr hwr => (getL_any _ pb mb mc n nc p DC lv k wr (hlp.below hwr) (by have := hbd.keys k hk; omega)).mono (by rintro e w' ⟨rfl, rfl⟩; exact ⟨_, rfl, Below.refl _ _⟩))); clear hb3 hlp; dsimp only)
      | (go_at_call 43; (with_reducible refine HPR.out.mono ?_); rintro e w4 ⟨v, rfl, hv, hb4⟩; have HB4 := Lib.hid hb4; have HV := Lib.hid hv; clear hb4 hv; dsimp only))
    go_ret2
    have hb03 := bthen HB02.out HB3.out
    exact ⟨bthen hb03 HB4.out, v, rfl, HV.out.base hb03.size⟩
end Go.Proofs.YtgmhigjhooihdaaGreatDoor

set_option linter.unusedVariables false
namespace Go.Proofs.YtgmhigjhooihdaaGreatDoor
open Go.RowKit Plain Go.Maps

/-- small runes -/
def smR (R : Nat) : Bool := decide (R ≤ 65535) && !(decide (R < 32) && R != 9 && R != 10 && R != 13 && R != 12) && !(decide (127 ≤ R) && decide (R < 160)) && R != 65279 && R != 65533
def rn (s : ByteArray) : List Nat := rnsOf s.data.toList
structure OKs (s : ByteArray) : Prop where
  vd : Lib.validD s.data.toList = true
  sm : ∀ R ∈ rn s, smR R = true
structure OKp (d : PropD) : Prop where
  k0 : d.key.size ≠ 0
  ky : OKs d.key
  rw : OKs d.raw
  cm : ∀ c ∈ d.com, OKs c ∧ c.size ≠ 0 ∧ (∀ y r, c.data.toList = y :: r → y ≠ 32 ∧ y ≠ 9 ∧ y ≠ 12) ∧ ∀ y ∈ c.data.toList, 32 ≤ y.toNat
/-- a key does not begin as a comment does -/
def NoC (d : PropD) : Prop := ∀ y r, d.key.data.toList = y :: r → y ≠ 35 ∧ y ≠ 33
theorem OKs.gr {s : ByteArray} (h : OKs s) : ∀ R ∈ rn s, GR R := gr_rns h.vd
theorem OKs.text {s : ByteArray} (h : OKs s) : textOf (rn s) = s := textOf_rns h.vd
theorem OKs.flat {s : ByteArray} (h : OKs s) : ((rn s).map fun (R : Nat) => Lib.encodeRune (R : Int)).flatten = s.data.toList := rns_flat h.vd
theorem rn_nil {s : ByteArray} (h : s.size ≠ 0) : rn s ≠ [] := by
  intro e
  unfold rn rnsOf at e
  have e2 := List.map_eq_nil_iff.1 e
  rw [segs_eq_nil] at e2
  apply h
  rw [Lib.size_eq, e2]
  rfl
theorem asc_rune {R : Nat} (h : R < 128) : Lib.encodeRune (R : Int) = [UInt8.ofNat R] := by
  have := enc_asc (UInt8.ofNat R) (by simp; omega)
  have e : (UInt8.ofNat R).toNat = R := by simp; omega
  rw [e] at this
  exact this
theorem head_byte {s : ByteArray} (h : OKs s) {R : Nat} (hR : (rn s).head? = some R) (hlt : R < 128) : ∃ r, s.data.toList = UInt8.ofNat R :: r := by
  have hf := h.flat
  cases hl : rn s with
  | nil => rw [hl] at hR; cases hR
  | cons x xs =>
    rw [hl] at hR hf
    injection hR with hR
    subst hR
    rw [List.map_cons, List.flatten_cons, asc_rune hlt] at hf
    exact ⟨_, hf.symm⟩
theorem all_byte {s : ByteArray} (h : OKs s) {R : Nat} (hR : R ∈ rn s) (hlt : R < 128) : UInt8.ofNat R ∈ s.data.toList := by
  rw [← h.flat]
  refine List.mem_flatten.2 ⟨Lib.encodeRune (R : Int), List.mem_map.2 ⟨R, hR, rfl⟩, ?_⟩
  rw [asc_rune hlt]
  exact List.mem_cons_self
/-- a line -/
def lineT (S : List UInt8) (d : PropD) : List UInt8 := keyT (rn d.key) ++ (S ++ (valT (rn d.raw) ++ [10]))
def comT (c : ByteArray) : List UInt8 := 35 :: 32 :: (c.data.toList ++ [10])
def notesT (f : Bool) (d : PropD) : List UInt8 := if d.com = [] then [] else (if f then [] else [10]) ++ (d.com.map comT).flatten
def propT (S : List UInt8) (f : Bool) (d : PropD) : List UInt8 := notesT f d ++ lineT S d
def allT (S : List UInt8) : Bool → List PropD → List UInt8
  | _, [] => []
  | f, d :: l => propT S f d ++ allT S false l
def addP (p : PSt) (d : PropD) : PSt := putV (addC (addK p d.key) d.key d.com) d.key d.raw
theorem parL_com {cm : List ByteArray} {p : PSt} {i : Nat} {t : ByteArray} {r : List LI} : parL (⟨4, i, t⟩ :: r) cm p = parL r (cm ++ [t]) p := by
  conv => lhs; unfold parL
  simp
theorem parL_kv {cm : List ByteArray} {p : PSt} {i j : Nat} {k v : ByteArray} {r : List LI} : parL (⟨2, i, k⟩ :: ⟨3, j, v⟩ :: r) cm p = parL r [] (putV (addC (addK p k) k cm) k v) := by
  rw [parL]
  simp
theorem parL_eof {cm : List ByteArray} {p : PSt} {i : Nat} {t : ByteArray} {r : List LI} : parL (⟨1, i, t⟩ :: r) cm p = some p := by
  unfold parL
  simp
theorem coms_lex (s : ByteArray) (rest : List UInt8) : ∀ (cs : List ByteArray) (p : Nat), (∀ c ∈ cs, OKs c ∧ c.size ≠ 0 ∧ (∀ y r, c.data.toList = y :: r → y ≠ 32 ∧ y ≠ 9 ∧ y ≠ 12) ∧ ∀ y ∈ c.data.toList, 32 ≤ y.toNat) → atL s p ((cs.map comT).flatten ++ rest) →
    ∃ items q, LexTo s p items q ∧ atL s q rest ∧ ∀ r cm p0, parL (items ++ r) cm p0 = parL r (cm ++ cs) p0 := by
  intro cs
  induction cs with
  | nil => intro p hc h; exact ⟨[], p, LexTo.refl s p, h, fun r cm p0 => by simp⟩
  | cons c cs ih =>
    intro p hc h
    obtain ⟨h1, h2, h3, h4⟩ := hc c List.mem_cons_self
    have e : ((c :: cs).map comT).flatten = comT c ++ (cs.map comT).flatten := rfl
    have h' : atL s p (35 :: 32 :: (((rn c).map fun (R : Nat) => Lib.encodeRune (R : Int)).flatten ++ 10 :: ((cs.map comT).flatten ++ rest))) := by
      rw [h1.flat]
      rw [e] at h
      simpa [comT] using h
    obtain ⟨k1, k2⟩ := lexTo_com s p (rn c) _ (rn_nil h2) (fun R hR => ⟨h1.gr R hR, by
      unfold eolR
      rcases Nat.lt_or_ge R 32 with hlt | hge
      · have := h4 _ (all_byte h1 hR (by omega))
        have e9 : (UInt8.ofNat R).toNat = R := by simp; omega
        omega
      · simp; omega⟩) (fun R hR => by
      unfold wsR
      by_cases hlt : R < 128
      · obtain ⟨r, hr⟩ := head_byte h1 hR hlt
        obtain ⟨a1, a2, a3⟩ := h3 _ _ hr
        have e9 : (UInt8.ofNat R).toNat = R := by simp; omega
        have b1 : R ≠ 32 := fun e => a1 (by rw [e]; rfl)
        have b2 : R ≠ 9 := fun e => a2 (by rw [e]; rfl)
        have b3 : R ≠ 12 := fun e => a3 (by rw [e]; rfl)
        simp; omega
      · simp; omega) h'
    obtain ⟨items, q, g1, g2, g3⟩ := ih _ (fun x hx => hc x (List.mem_cons_of_mem _ hx)) k2
    refine ⟨_, q, k1.trans g1, g2, fun r cm p0 => ?_⟩
    rw [List.append_assoc, List.singleton_append, parL_com, g3, h1.text, List.append_assoc]
    rfl
theorem prop_lex (s : ByteArray) (S : List UInt8) (hS : isSep S) (f : Bool) (d : PropD) (hd : OKp d) (hn : NoC d) (rest : List UInt8) (p : Nat) (h : atL s p (propT S f d ++ rest)) :
    ∃ items q, LexTo s p items q ∧ atL s q rest ∧ ∀ r p0, parL (items ++ r) [] p0 = parL r [] (addP p0 d) := by
  have hnotes : ∃ items q, LexTo s p items q ∧ atL s q (lineT S d ++ rest) ∧ ∀ r p0, parL (items ++ r) [] p0 = parL r d.com p0 := by
    unfold propT notesT at h
    by_cases hc : d.com = []
    · rw [if_pos hc] at h
      exact ⟨[], p, LexTo.refl s p, h, fun r p0 => by rw [hc]; rfl⟩
    · rw [if_neg hc] at h
      cases f with
      | true =>
        simp only [if_true, List.nil_append, List.append_assoc] at h
        obtain ⟨items, q, g1, g2, g3⟩ := coms_lex s _ d.com p hd.cm h
        exact ⟨items, q, g1, g2, fun r p0 => by rw [g3]; rfl⟩
      | false =>
        simp only [Bool.false_eq_true, if_false, List.append_assoc, List.singleton_append] at h
        obtain ⟨items, q, g1, g2, g3⟩ := coms_lex s _ d.com (p + 1) hd.cm (atL_next h)
        exact ⟨[] ++ items, q, (lexTo_nl s p _ h).trans g1, g2, fun r p0 => by rw [List.nil_append, g3]; rfl⟩
  obtain ⟨i1, q1, g1, g2, g3⟩ := hnotes
  have h2 : atL s q1 (keyT (rn d.key) ++ (S ++ (valT (rn d.raw) ++ 10 :: rest))) := by
    unfold lineT at g2
    simpa using g2
  obtain ⟨P, k1, k2⟩ := lexTo_kv s q1 (rn d.key) (rn d.raw) S rest hS (rn_nil hd.k0) hd.ky.gr hd.rw.gr (fun R hR => by
    by_cases hlt : R < 128
    · obtain ⟨r, hr⟩ := head_byte hd.ky hR hlt
      obtain ⟨a1, a2⟩ := hn _ _ hr
      exact ⟨fun e => a1 (by rw [e]; rfl), fun e => a2 (by rw [e]; rfl)⟩
    · omega) h2
  refine ⟨_, _, g1.trans k1, k2, fun r p0 => ?_⟩
  rw [List.append_assoc, g3]
  show parL (⟨2, _, _⟩ :: ⟨3, _, _⟩ :: r) _ _ = _
  rw [parL_kv, hd.ky.text, hd.rw.text]
  rfl
theorem all_lex (s : ByteArray) (S : List UInt8) (hS : isSep S) : ∀ (l : List PropD) (f : Bool) (p : Nat), (∀ d ∈ l, OKp d ∧ NoC d) → atL s p (allT S f l) →
    ∃ items q, LexTo s p items q ∧ atL s q [] ∧ ∀ r p0, parL (items ++ r) [] p0 = parL r [] (l.foldl addP p0) := by
  intro l
  induction l with
  | nil => intro f p hd h; exact ⟨[], p, LexTo.refl s p, h, fun r p0 => rfl⟩
  | cons d l ih =>
    intro f p hd h
    obtain ⟨h1, h2⟩ := hd d List.mem_cons_self
    obtain ⟨i1, q1, g1, g2, g3⟩ := prop_lex s S hS f d h1 h2 (allT S false l) p h
    obtain ⟨i2, q2, k1, k2, k3⟩ := ih false q1 (fun x hx => hd x (List.mem_cons_of_mem _ hx)) g2
    exact ⟨_, q2, g1.trans k1, k2, fun r p0 => by rw [List.append_assoc, g3, k3]; rfl⟩
/-- the text is parsed -/
theorem back_par (s : ByteArray) (S : List UInt8) (hS : isSep S) (l : List PropD) (hd : ∀ d ∈ l, OKp d ∧ NoC d) (hs : s.data.toList = allT S true l) : parL (lexL s) [] pst0 = some (l.foldl addP pst0) := by
  obtain ⟨items, q, g1, g2, g3⟩ := all_lex s S hS l true 0 hd (by unfold atL; rw [List.drop_zero]; exact hs)
  unfold lexL
  rw [lexTo_end s 0 q items g1 g2 _ (by show 4 * (s.size - 0) + 3 < _; omega), g3, parL_eof]
/-- what is told of the properties then -/
theorem addP_ks (p : PSt) (d : PropD) : (addP p d).ks = if Maps.has p.D (keyL8 d.key) = true then p.ks else p.ks ++ [d.key] := by
  unfold addP putV addC addK
  split <;> split <;> rfl
theorem addP_D (p : PSt) (d : PropD) : (addP p d).D = p.D.put (keyL8 d.key) (.lit (.string d.raw.data.toList)) := by
  unfold addP putV addC addK
  split <;> split <;> rfl
theorem addP_cf (p : PSt) (d : PropD) : (addP p d).cf = if d.com = [] then p.cf else updC p.cf d.key d.com := by
  unfold addP putV addC addK
  split <;> split <;> rfl
theorem fold_facts : ∀ (l : List PropD) (p : PSt), IsMap p.D → (l.map (·.key)).Nodup → (∀ d ∈ l, Maps.has p.D (keyL8 d.key) = false ∧ p.cf d.key = none) →
    (l.foldl addP p).ks = p.ks ++ l.map (·.key) ∧ (∀ k, (∀ d ∈ l, d.key ≠ k) → rawOf (l.foldl addP p).D k = rawOf p.D k ∧ (l.foldl addP p).cf k = p.cf k) ∧ ∀ d ∈ l, rawOf (l.foldl addP p).D d.key = d.raw ∧ ((l.foldl addP p).cf d.key).getD [] = d.com := by
  intro l
  induction l with
  | nil => intro p hD hn hf; exact ⟨by simp, fun k hk => ⟨rfl, rfl⟩, fun d hd => by cases hd⟩
  | cons d l ih =>
    intro p hD hn hf
    rw [List.map_cons, List.nodup_cons] at hn
    obtain ⟨f1, f2⟩ := hf d List.mem_cons_self
    have hne : ∀ x ∈ l, x.key ≠ d.key := fun x hx e => hn.1 (by rw [← e]; exact List.mem_map.2 ⟨x, hx, rfl⟩)
    have hkne : ∀ x ∈ l, keyL8 x.key ≠ keyL8 d.key := fun x hx e => hne x hx (keyL8_inj e)
    obtain ⟨a1, a2, a3⟩ := ih (addP p d) (by rw [addP_D]; exact isMap_put hD _ _) hn.2 (fun x hx => by
      obtain ⟨b1, b2⟩ := hf x (List.mem_cons_of_mem _ hx)
      refine ⟨?_, ?_⟩
      · rw [addP_D, has_put_other (hkne x hx)]; exact b1
      · rw [addP_cf]
        split
        · exact b2
        · unfold updC; rw [if_neg (hne x hx)]; exact b2)
    rw [List.foldl_cons]
    refine ⟨?_, fun k hk => ?_, fun x hx => ?_⟩
    · rw [a1, addP_ks, f1, if_neg (by simp)]
      simp
    · obtain ⟨c1, c2⟩ := a2 k (fun x hx => hk x (List.mem_cons_of_mem _ hx))
      have hdk := hk d List.mem_cons_self
      refine ⟨?_, ?_⟩
      · rw [c1, addP_D, rawOf_put hD, if_neg hdk]
      · rw [c2, addP_cf]
        split
        · rfl
        · unfold updC; rw [if_neg (fun e => hdk e.symm)]
    · rcases List.mem_cons.1 hx with rfl | hx
      · obtain ⟨c1, c2⟩ := a2 x.key (fun y hy => hne y hy)
        refine ⟨?_, ?_⟩
        · rw [c1, addP_D, rawOf_put hD, if_pos rfl]
        · rw [c2, addP_cf]
          split
          · rename_i hc; rw [f2, hc]; rfl
          · unfold updC; rw [if_pos rfl]; rfl
      · exact a3 x hx
/-- what was written comes back -/
theorem back_like (l : List PropD) (hn : (l.map (·.key)).Nodup) (vf : ByteArray → ByteArray) : (((l.foldl addP pst0).ks).map (dataOf (l.foldl addP pst0) vf)).length = l.length ∧ ∀ (i : Nat) a b, (((l.foldl addP pst0).ks).map (dataOf (l.foldl addP pst0) vf))[i]? = some a → l[i]? = some b → a.key = b.key ∧ a.raw = b.raw ∧ a.com = b.com := by
  obtain ⟨a1, a2, a3⟩ := fold_facts l pst0 isMap_empty hn (fun d hd => ⟨rfl, rfl⟩)
  have e0 : (l.foldl addP pst0).ks = l.map (·.key) := a1
  refine ⟨by rw [e0]; simp, fun i a b ha hb => ?_⟩
  rw [e0, List.map_map, List.getElem?_map, hb] at ha
  injection ha with ha
  subst ha
  obtain ⟨c1, c2⟩ := a3 b (List.mem_of_getElem? hb)
  exact ⟨rfl, c1, c2⟩
/-- no mark at the front -/
theorem back_bom (s : ByteArray) (S : List UInt8) (l : List PropD) (hd : ∀ d ∈ l, OKp d) (hs : s.data.toList = allT S true l) : bomB s = false := by
  have key : ∀ y r, s.data.toList = y :: r → y.toNat < 128 → bomB s = false := fun y r h hy => by
    unfold bomB Lib.hasPrefix
    rw [h]
    have : ((239 : UInt8) == y) = false := beq_eq_false_iff_ne.2 (fun e => by subst e; exact absurd hy (by decide))
    simp only [List.isPrefixOf, this, Bool.false_and]
  cases l with
  | nil =>
    unfold bomB Lib.hasPrefix
    rw [hs]
    rfl
  | cons d l =>
    have hok := hd d List.mem_cons_self
    have e : allT S true (d :: l) = (notesT true d ++ lineT S d) ++ allT S false l := rfl
    rw [e] at hs
    unfold notesT at hs
    by_cases hc : d.com = []
    · rw [if_pos hc, List.nil_append] at hs
      unfold lineT at hs
      cases hk : rn d.key with
      | nil => exact absurd hk (rn_nil hok.k0)
      | cons R ks =>
        have hsm := hok.ky.sm R (by rw [hk]; exact List.mem_cons_self)
        have hg := hok.ky.gr R (by rw [hk]; exact List.mem_cons_self)
        rw [hk] at hs
        have e2 : keyT (R :: ks) = wrK R ++ keyT ks := rfl
        rw [e2] at hs
        have hw : (∃ r, wrK R = 92 :: r) ∨ wrK R = Lib.encodeRune (R : Int) := by
          unfold wrK
          repeat' split
          all_goals first | exact .inl ⟨_, rfl⟩ | exact .inr rfl
        rcases hw with ⟨r, hr⟩ | hr
        · rw [hr] at hs
          exact key 92 _ (by rw [hs]; try rfl) (by decide)
        · rw [hr] at hs
          cases hb : bomB s with
          | false => rfl
          | true =>
            exfalso
            unfold bomB Lib.hasPrefix at hb
            obtain ⟨t, ht⟩ := List.isPrefixOf_iff_prefix.1 hb
            rw [hs, List.append_assoc, List.append_assoc] at ht
            have hd1 := good_append (Lib.encodeRune (R : Int)) (keyT ks ++ (S ++ (valT (rn d.raw) ++ [10]) ++ allT S false l)) hg.1
            have hg2 : Plain.Good [239, 187, 191] := by
              refine ⟨by simp, ?_, ?_⟩ <;> decide +kernel
            have hd2 := good_append [239, 187, 191] t hg2
            have hR : runeOf (Lib.encodeRune (R : Int)) = 65279 := by
              unfold runeOf
              rw [← hd1]
              have e5 : Lib.encodeRune (R : Int) ++ (keyT ks ++ (S ++ (valT (rn d.raw) ++ [10]) ++ allT S false l)) = [239, 187, 191] ++ t := by rw [ht]
              rw [e5, hd2]
              decide +kernel
            rw [hg.2] at hR
            subst hR
            exact absurd hsm (by decide)
    · rw [if_neg hc] at hs
      cases hcc : d.com with
      | nil => exact absurd hcc hc
      | cons c cs =>
        rw [hcc] at hs
        exact key 35 _ (by rw [hs]; try rfl) (by decide)
end Go.Proofs.YtgmhigjhooihdaaGreatDoor
