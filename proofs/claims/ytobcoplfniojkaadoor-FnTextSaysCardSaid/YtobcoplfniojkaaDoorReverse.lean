/- The walk of xstrings.Reverse: the pieces of a text, the last one first. -/
import Derived.Test.YtobcoplfniojkaaDoorLen
import Derived.Deep.RegionLaw
import Derived.Deep.MidRow
import Derived.Lib.ConvBytes
import Derived.Lib.AppendStr
import Derived.Laws.MakeOwn
import Derived.Laws.IdiomStrings
namespace Go.Proofs.YtobcoplfniojkaaDoor
open Go.RowKit Plain

theorem infoByte : (Tryd.prog.info? 5).map (fun i => (i.zero, i.size, i.bytes)) = some (some (.int .u8 0), 1, 1) := by kernel_rfl
/-- bytes as cells -/
def bcells (l : List UInt8) : List Value := l.map fun b => Value.int .u8 (b.toNat : Int)
theorem bcells_length (l : List UInt8) : (bcells l).length = l.length := by simp [bcells]
theorem bcells_append (a b : List UInt8) : bcells (a ++ b) = bcells a ++ bcells b := by simp [bcells]
theorem bcells_one (l : List UInt8) : ∀ u ∈ bcells l, u.oneCell' = true := by
  intro u hu
  obtain ⟨x, _, rfl⟩ := List.mem_map.1 hu
  rfl
/-- the pieces, the last one first -/
def revB (l : List UInt8) : List UInt8 := (segs l).reverse.flatten

theorem rangeAt_append {w : World} {b o : Nat} {xs ys : List Value} (h : w.rangeAt b o xs) (k : w.rangeAt b (o + xs.length) ys) : w.rangeAt b o (xs ++ ys) := fun j v hv => by
  by_cases hj : j < xs.length
  · rw [List.getElem?_append_left hj] at hv
    exact h j v hv
  · rw [List.getElem?_append_right (by omega)] at hv
    have := k (j - xs.length) v hv
    rwa [show o + xs.length + (j - xs.length) = o + j by omega] at this

theorem there_below {w w' : World} {B G o n : Nat} (h : w.there G o n) (hb : Below B w w') (hG : G < B) : w'.there G o n := fun j hj => by
  rw [hb.cell (p := ⟨G, o + j, none⟩) hG, hb.frozen (p := ⟨G, o + j, none⟩) hG]; exact h j hj
theorem rangeAt_below {w w' : World} {B G o : Nat} {cs : List Value} (h : w.rangeAt G o cs) (hb : Below B w w') (hG : G < B) : w'.rangeAt G o cs := fun j v hv => by
  rw [hb.cell (p := ⟨G, o + j, none⟩) hG]; exact h j v hv
theorem setCells_heap (w : World) (G o : Nat) (vs : List Value) (i : Nat) (h : i ≠ G) : (w.setCells G o vs).heap[i]? = w.heap[i]? := by
  induction vs generalizing w o with
  | nil => rfl
  | cons v vs ih => rw [World.setCells, ih, Below.heap_setCell _ _ _ _ h]
theorem setCells_size (w : World) (G o : Nat) (vs : List Value) : (w.setCells G o vs).heap.size = w.heap.size := by
  induction vs generalizing w o with
  | nil => rfl
  | cons v vs ih => rw [World.setCells, ih]; simp [World.setCell]
theorem below_setCells {B : Nat} {w0 w : World} {G : Nat} (h : Below B w0 w) (hG : B ≤ G) (vs : List Value) : ∀ o, Below B w0 (w.setCells G o vs) := by
  induction vs generalizing w with
  | nil => intro o; exact h
  | cons v vs ih => intro o; exact ih (h.setCell (p := ⟨G, o, none⟩) hG v) (o + 1)
theorem below_bytesWorld {B : Nat} {w0 w : World} (h : Below B w0 w) (hB : B ≤ w.heap.size) (e : TypeId) (x : ByteArray) : Below B w0 (Lib.bytesWorld w e x) := by
  have e1 : Below B w (Lib.bytesWorld w e x) := by
    refine ⟨?_, ?_, ?_, ?_, fun k hk => Lib.bytesWorld_at_old w e x k (by omega)⟩
    · unfold Lib.bytesWorld World.freeze; split <;> rfl
    · unfold Lib.bytesWorld World.freeze; split <;> rfl
    · unfold Lib.bytesWorld World.freeze; split <;> rfl
    · rw [Lib.bytesWorld_size]; omega
  exact h.trans e1
/-- the world behind a round -/
def revWorld (wr : World) (G o : Nat) (x : ByteArray) : World := (Lib.bytesWorld wr.drew 5 x).setCells G o (bcells x.data.toList)

theorem rev_step {w0 wr : World} {G n o : Nat} {bs : List UInt8} {x : ByteArray} (hG : G < wr.heap.size) (hB : w0.heap.size ≤ G) (ht : wr.there G 0 n) (hr : wr.rangeAt G (o + x.size) (bcells bs)) (hb : Below w0.heap.size w0 wr) (hn : o + x.size ≤ n) :
    (revWorld wr G o x).there G 0 n ∧ (revWorld wr G o x).rangeAt G o (bcells (x.data.toList ++ bs)) ∧ Below w0.heap.size w0 (revWorld wr G o x) ∧ wr.heap.size < (revWorld wr G o x).heap.size := by
  have hsz : (bcells x.data.toList).length = x.size := by rw [bcells_length, Lib.size_eq]
  have hold : ∀ j, (Lib.bytesWorld wr.drew 5 x).cell? ⟨G, j, none⟩ = wr.cell? ⟨G, j, none⟩ := fun j => Lib.bytesWorld_old wr.drew _ x ⟨G, j, none⟩ hG
  have hfro : ∀ j, (Lib.bytesWorld wr.drew 5 x).frozen? ⟨G, j, none⟩ = wr.frozen? ⟨G, j, none⟩ := fun j => World.frozen?_of_block (w := wr.drew) (Lib.bytesWorld_at_old wr.drew _ x G hG)
  have t1 : (Lib.bytesWorld wr.drew 5 x).there G 0 n := fun j hj => by rw [hold, hfro]; exact ht j hj
  have r1 : (Lib.bytesWorld wr.drew 5 x).rangeAt G (o + x.size) (bcells bs) := fun j v hv => by rw [hold]; exact hr j v hv
  have t2 : (Lib.bytesWorld wr.drew 5 x).there G o x.size := fun j hj => by have := t1 (o + j) (by omega); simpa using this
  refine ⟨World.there_setCells t1 _ _ _, ?_, ?_, ?_⟩
  · rw [bcells_append]
    refine rangeAt_append (World.rangeAt_setCells_same _ _ _ _ (by rw [hsz]; exact t2)) ?_
    rw [hsz]
    exact World.rangeAt_setCells_apart r1 _ _ _ (.inr (.inr (by rw [hsz]; omega)))
  · exact below_setCells (below_bytesWorld hb.drew (by have := hb.size; simp; omega) _ _) hB _ _
  · unfold revWorld
    rw [setCells_size, Lib.bytesWorld_size]
    simp

set_option maxHeartbeats 2000000 in
set_option maxRecDepth 100000 in
theorem reverse_any (s : ByteArray) (w : World) (hs : s.size ≤ 2147483647) (hT : Tabs w) :
    Calls Tryd.prog 40 #[.string s] w fun e w' => e = .returned (.string ⟨(revB s.data.toList).toArray⟩) ∧ Below w.heap.size w w' := by
  obtain ⟨i0, hi, hz0, hz1, hz2⟩ := info_parts infoByte
  obtain ⟨ALL, hALL⟩ : ∃ ALL, revB s.data.toList = ALL := ⟨_, rfl⟩
  rw [hALL]
  have HA := Lib.hid hALL
  clear hALL
  have hmk : ∀ W : World, (Instr.makeSlice 61 (.int .i64 (s.size : Int)) (.int .i64 (s.size : Int))).run Tryd.prog W = .ok (.slice (some ⟨W.heap.size, 0, none⟩) s.size s.size) (W.alloc (.cells (madeCells #[.int .u8 0] s.size) 5)) := fun W => by
    have := run_make (P := Tryd.prog) W 61 5 i0 _ Tryd.underlying61 hi hz0 .i64 .i64 (s.size : Int) (s.size : Int) (by omega) (Int.le_refl _) (by rw [hz2]; omega) (by omega)
    simpa [hz1, Value.cells] using this
  go_enter Tryd.func40, Tryd.ntmps40
  go_wp2
  clear hmk
  go_loopw [0, 4, 6] (fun str tail sl wr => ∃ (t : ByteArray) (bs : List UInt8) (l : Nat), str = .string t ∧ tail = .int .i64 (t.size : Int) ∧ sl = .slice (some ⟨w.heap.size, 0, none⟩) l s.size ∧ t.size + bs.length = s.size ∧ (segs t.data.toList).reverse.flatten ++ bs = ALL ∧ wr.there w.heap.size 0 s.size ∧ wr.rangeAt w.heap.size t.size (bcells bs) ∧ w.heap.size < wr.heap.size ∧ Below w.heap.size w wr) (fun str _ _ _ => match str with | .string t => t.size | _ => 0)
  case atStart =>
    refine ⟨s, [], s.size, rfl, rfl, rfl, by simp, by simpa [revB] using HA.out, ?_, ?_, by simp, (Below.refl _ w).alloc (Nat.le_refl _) _⟩
    · intro j hj
      have hb : (w.alloc (.cells (madeCells #[.int .u8 0] s.size) 5)).heap[w.heap.size]? = some (.cells (madeCells #[.int .u8 0] s.size) 5 (0, 0)) := heap_alloc_new w _
      rw [Lib.cell_of_heap hb, Lib.frozen_of_heap hb, Nat.zero_add]
      refine ⟨?_, rfl⟩
      rw [Array.getElem?_eq_getElem (by rw [size_madeCells]; exact hj)]
      rfl
    · intro j v hv; simp [bcells] at hv
  case round =>
    obtain ⟨t, bs, l, rfl, rfl, rfl, hlen, hacc, hth, hra, hsz, hbw⟩ := hrel
    have HC := Lib.hid hacc
    have HL := Lib.hid hlen
    have HT := Lib.hid hth
    have HR := Lib.hid hra
    have hts : t.size ≤ s.size := by omega
    clear hacc hlen hth hra
    have hTr := hT.below hbw
    by_cases hp : 0 < t.size
    · obtain ⟨R, K, hh⟩ := head_of t hp
      have HH := Lib.hid hh
      have hK1 := hh.pos
      have hK2 := hh.le
      have HS := Lib.hid (segs_rest t R K hh)
      clear hh
      have hpz : (0 : Int) < (t.size : Int) := by omega
      have HRS := Lib.hid (rest_of t K).2
      go_wp2_with (go_at_call 57; refine (decode_any t _ hTr R K HH).mono ?_; rintro e w1 ⟨rfl, hb1⟩)
      obtain ⟨T', hT'⟩ : ∃ T', t.size - K = T' := ⟨_, rfl⟩
      have e1 : (t.size : Int) - (K : Int) = (T' : Int) := by omega
      rw [e1]
      have hTs : T' + K ≤ s.size := by omega
      have hTs1 : T' ≤ s.size := by omega
      have hsz1 : w.heap.size < w1.heap.size := by have := hb1.size; omega
      have hbw1 : Below w.heap.size w w1 := hbw.trans (hb1.mono (by omega))
      obtain ⟨x, hx⟩ : ∃ x, t.extract 0 K = x := ⟨_, rfl⟩
      have hxs : x.size = K := by rw [← hx]; simp; omega
      have hxl : t.data.toList.take K = x.data.toList := by rw [← hx, Lib.extract_data]; simp
      have hth1 := there_below HT.out hb1 hsz
      have hra1 := rangeAt_below HR.out hb1 hsz
      have c1 := Lib.hid (show (bcells x.data.toList).length = x.size * 1 by rw [bcells_length, ← Lib.size_eq]; omega)
      have c2 : Hid (∀ j u, (bcells x.data.toList)[j]? = some u → (Lib.bytesWorld w1.drew 5 x).cell? ((⟨w1.heap.size, 0, none⟩ : Addr).add j) = some u) := by
        intro j u hu
        have hj : j < x.data.toList.length := by
          have := (List.getElem?_eq_some_iff.1 hu).1
          rwa [bcells_length] at this
        have hc := Lib.bytesWorld_cell w1.drew 5 x j (by rw [Lib.size_eq]; exact hj)
        rw [Addr.add_mid, Nat.zero_add]
        rw [show (w1.drew).heap.size = w1.heap.size from rfl] at hc
        rw [hc, ← hu]
        simp [bcells, List.getElem?_eq_getElem hj, List.getD]
      have c3 := Lib.hid (bcells_one x.data.toList)
      have c4 : Hid (∀ j, j < (bcells x.data.toList).length → ((Lib.bytesWorld w1.drew 5 x).cell? ⟨w.heap.size, 0 + T' * 1 + j, none⟩).isSome = true ∧ (Lib.bytesWorld w1.drew 5 x).frozen? ⟨w.heap.size, 0 + T' * 1 + j, none⟩ = false) := by
        intro j hj
        rw [bcells_length, ← Lib.size_eq] at hj
        have h1 := hth1 (T' + j) (by omega)
        rw [Nat.mul_one, Nat.zero_add]
        rw [Nat.zero_add] at h1
        have e2 : (Lib.bytesWorld w1.drew 5 x).cell? ⟨w.heap.size, T' + j, none⟩ = w1.cell? ⟨w.heap.size, T' + j, none⟩ := Lib.bytesWorld_old w1.drew _ x ⟨w.heap.size, T' + j, none⟩ hsz1
        have e3 : (Lib.bytesWorld w1.drew 5 x).frozen? ⟨w.heap.size, T' + j, none⟩ = w1.frozen? ⟨w.heap.size, T' + j, none⟩ := World.frozen?_of_block (w := w1.drew) (Lib.bytesWorld_at_old w1.drew _ x w.heap.size hsz1)
        rw [e2, e3]
        exact h1
      have st := rev_step (x := x) (o := T') hsz1 (Nat.le_refl _) hth1 (by rw [hxs, show T' + K = t.size by omega]; exact hra1) hbw1 (by omega)
      have HSt := Lib.hid st
      have HXS := Lib.hid hxs
      have hTx : T' + x.size ≤ s.size := by omega
      have HXL := Lib.hid hxl
      have HT' := Lib.hid hT'
      have kc := fun (W : World) => Lib.run_convert_string_bytes (P := Tryd.prog) W 9 61 5 (t.extract 0 K) Tryd.underlying9 Tryd.underlying61 Tryd.underlying5
      rw [hx] at kc
      clear hth1 hra1 st hxs hxl hT' e1 hb1 hbw
      go_region_law (refine step_append_room rfl (.tmp 25) (.tmp 29) 61 rfl 5 i0 1 Tryd.underlying61 hi hz1 w.heap.size 0 T' s.size (by simp [Act.eval]) ⟨w1.heap.size, 0, none⟩ x.size (grownCap w1.drew x.size 0 5) (bcells x.data.toList) (by simp [Act.eval]) c1.out c2.out c3.out hTx c4.out ?_)
      clear hx kc c1 c2 c3 c4
      go_wp2
      go_roundw
      case rel =>
        have hst := HSt.out
        have hxs := HXS.out
        have hlen := HL.out
        have hrs := HRS.out
        have hT' := HT'.out
        have hrr := (rest_of t K).1
        refine ⟨t.extract K t.size, x.data.toList ++ bs, T' + x.size, rfl, by rw [hrs, hT'], rfl, ?_, ?_, ?_, ?_, ?_, ?_⟩
        · rw [hrs, List.length_append, ← Lib.size_eq]; omega
        · have h1 := HC.out
          rw [HS.out, HXL.out, List.reverse_cons, List.flatten_append] at h1
          rw [← h1]
          simp
        · have := hst.1
          simpa [revWorld] using this
        · rw [hrs, hT']
          have := hst.2.1
          simpa [revWorld] using this
        · have := hst.2.2.2
          have h2 : w.heap.size < (revWorld w1 w.heap.size T' x).heap.size := by omega
          simpa [revWorld] using h2
        · have := hst.2.2.1
          simpa [revWorld] using this
      case measure =>
        have hrs := HRS.out
        simp only [hrs]
        omega
    · have hpz : ¬ (0 : Int) < (t.size : Int) := by omega
      have h0 : t.size = 0 := by omega
      have hlen := HL.out
      have hl : bs.length = s.size := by omega
      have hback : (convert 61 9 (.slice (some ⟨w.heap.size, 0, none⟩) s.size s.size)).run Tryd.prog wr = .ok (.string ⟨bs.toArray⟩) wr := by
        have := run_convert_bytes_back (P := Tryd.prog) wr 61 9 5 ⟨w.heap.size, 0, none⟩ s.size bs Tryd.underlying61 Tryd.underlying5 Tryd.underlying9 (fun j hj => by
          rw [Addr.add_mid]
          have := HR.out j (.int .u8 (bs[j].toNat : Int)) (by simp [bcells, hj])
          rwa [h0] at this)
        rwa [hl] at this
      have HB := Lib.hid hback
      have H0 := Lib.hid h0
      clear hlen hl h0
      go_wp2
      go_ret
      have h1 := HC.out
      rw [segs_empty t hp] at h1
      simp at h1
      exact ⟨ret_str (by rw [h1]), hbw⟩
end Go.Proofs.YtobcoplfniojkaaDoor
