/- The walk of shellwords.Parse. -/
import Derived.Test.YtcjfcjlendibpaaDoorPMem
import Derived.Test.YtcjfcjlendibpaaDoorTextOf
import Derived.Deep.CutBlock
import Derived.Deep.LoopGhost
import Derived.WalkMore
import Derived.Deep.QuietTactic
import Derived.BigQuiet
import Derived.Laws.MakeOwn
import Derived.Laws.RangeAny
set_option linter.unusedVariables false
set_option linter.unusedSimpArgs false
namespace Go.Proofs.YtcjfcjlendibpaaDoor
open Go.RowKit Plain

set_option maxRecDepth 100000 in
theorem lit419 (a : Act) (h : Fr 419 a) : ∃ f : Nat → Value, (∀ i, Sl a i = f i) ∧ a = ⟨#[f 0, f 1, f 2, f 3, f 4, f 5, f 6, f 7, f 8, f 9, f 10, f 11, f 12, f 13, f 14, f 15, f 16, f 17, f 18, f 19, f 20, f 21, f 22, f 23, f 24, f 25, f 26, f 27, f 28, f 29, f 30, f 31, f 32, f 33, f 34, f 35, f 36, f 37, f 38, f 39, f 40, f 41, f 42, f 43, f 44, f 45, f 46, f 47, f 48, f 49, f 50, f 51, f 52, f 53, f 54, f 55, f 56, f 57, f 58, f 59, f 60, f 61, f 62, f 63, f 64, f 65, f 66, f 67, f 68, f 69, f 70, f 71, f 72, f 73, f 74, f 75, f 76, f 77, f 78, f 79, f 80, f 81, f 82, f 83, f 84, f 85, f 86, f 87, f 88, f 89, f 90, f 91, f 92, f 93, f 94, f 95, f 96, f 97, f 98, f 99, f 100, f 101, f 102, f 103, f 104, f 105, f 106, f 107, f 108, f 109, f 110, f 111, f 112, f 113, f 114, f 115, f 116, f 117, f 118, f 119, f 120, f 121, f 122, f 123, f 124, f 125, f 126, f 127, f 128, f 129, f 130, f 131, f 132, f 133, f 134, f 135, f 136, f 137, f 138, f 139, f 140, f 141, f 142, f 143, f 144, f 145, f 146, f 147, f 148, f 149, f 150, f 151, f 152, f 153, f 154, f 155, f 156, f 157, f 158, f 159, f 160, f 161, f 162, f 163, f 164, f 165, f 166, f 167, f 168, f 169, f 170, f 171, f 172, f 173, f 174, f 175, f 176, f 177, f 178, f 179, f 180, f 181, f 182, f 183, f 184, f 185, f 186, f 187, f 188, f 189, f 190, f 191, f 192, f 193, f 194, f 195, f 196, f 197, f 198, f 199, f 200, f 201, f 202, f 203, f 204, f 205, f 206, f 207, f 208, f 209, f 210, f 211, f 212, f 213, f 214, f 215, f 216, f 217, f 218, f 219, f 220, f 221, f 222, f 223, f 224, f 225, f 226, f 227, f 228, f 229, f 230, f 231, f 232, f 233, f 234, f 235, f 236, f 237, f 238, f 239, f 240, f 241, f 242, f 243, f 244, f 245, f 246, f 247, f 248, f 249, f 250, f 251, f 252, f 253, f 254, f 255, f 256, f 257, f 258, f 259, f 260, f 261, f 262, f 263, f 264, f 265, f 266, f 267, f 268, f 269, f 270, f 271, f 272, f 273, f 274, f 275, f 276, f 277, f 278, f 279, f 280, f 281, f 282, f 283, f 284, f 285, f 286, f 287, f 288, f 289, f 290, f 291, f 292, f 293, f 294, f 295, f 296, f 297, f 298, f 299, f 300, f 301, f 302, f 303, f 304, f 305, f 306, f 307, f 308, f 309, f 310, f 311, f 312, f 313, f 314, f 315, f 316, f 317, f 318, f 319, f 320, f 321, f 322, f 323, f 324, f 325, f 326, f 327, f 328, f 329, f 330, f 331, f 332, f 333, f 334, f 335, f 336, f 337, f 338, f 339, f 340, f 341, f 342, f 343, f 344, f 345, f 346, f 347, f 348, f 349, f 350, f 351, f 352, f 353, f 354, f 355, f 356, f 357, f 358, f 359, f 360, f 361, f 362, f 363, f 364, f 365, f 366, f 367, f 368, f 369, f 370, f 371, f 372, f 373, f 374, f 375, f 376, f 377, f 378, f 379, f 380, f 381, f 382, f 383, f 384, f 385, f 386, f 387, f 388, f 389, f 390, f 391, f 392, f 393, f 394, f 395, f 396, f 397, f 398, f 399, f 400, f 401, f 402, f 403, f 404, f 405, f 406, f 407, f 408, f 409, f 410, f 411, f 412, f 413, f 414, f 415, f 416, f 417, f 418], []⟩ := frame_lit 419 a h

theorem enc_facts (z : Int) (r : Nat) (h : z = (r : Int)) : (encN r).length ≤ 4 ∧ (Utf8.encode z).size = (encN r).length ∧ Lib.strCells (Utf8.encode z) = Lib.byteCells (encN r) := by
  subst h
  refine ⟨encode_len _, ?_, ?_⟩
  · rw [encode_str]; rfl
  · rw [encode_str]; rfl
theorem conv_i32_u8 {r : Nat} (h : r < 256) (W : World) : (convert 21 5 (.int .i32 (r : Int))).run Tryd.prog W = .ok (.int .u8 (r : Int)) W := by
  have h1 := Tryd.underlying21
  have h2 := Tryd.underlying5
  have e : IntKind.u8.wrap (r : Int) = (r : Int) := by simp [IntKind.wrap, IntKind.bits, IntKind.signed]; omega
  simp [convert, run_underlying h1, run_underlying h2, Conv.intToInt, e]
theorem flA_all {a : List (List UInt8)} {b : List UInt8} {g N : Nat} (ha : ∀ x ∈ a, x.length ≤ N) (hb : b.length ≤ N) : ∀ x ∈ flA a b g, x.length ≤ N := by
  unfold flA
  split
  · intro x hx
    rcases List.mem_append.1 hx with h | h
    · exact ha x h
    · simp at h
      subst h
      exact hb
  · exact ha
theorem alloc_heap (w : World) (o : Obj) : (w.alloc o).heap = w.heap.push o := rfl
/-- the world in which the reading begins: seven new blocks -/
def initW (w : World) (xa xb : Array Value) (n m : Nat) : World :=
  ((((((w.alloc (.cells xa 9)).alloc (.cells #[.slice (some ⟨w.heap.size, 0, none⟩) 0 n] 24)).alloc (.cells xb 5)).alloc (.cells #[.slice (some ⟨w.heap.size + 1 + 1, 0, none⟩) 0 m] 56)).alloc (.cells #[.int .i64 0] 67)).alloc (.cells #[.bool false] 4)).alloc (.cells #[.bool false] 4)
def initL (w : World) : Bl := ⟨w.heap.size, w.heap.size + 1, w.heap.size + 1 + 1 + 1, w.heap.size + 1 + 1 + 1 + 1, w.heap.size + 1 + 1 + 1 + 1 + 1, w.heap.size + 1 + 1 + 1 + 1 + 1 + 1, w.heap.size + 1 + 1 + 1 + 1 + 1 + 1 + 1, by omega, by omega, by omega, by omega, by omega, by omega, by omega⟩
theorem initW_size (w : World) (xa xb : Array Value) (n m : Nat) : (initW w xa xb n m).heap.size = w.heap.size + 1 + 1 + 1 + 1 + 1 + 1 + 1 := by simp [initW]
theorem initW_below (w : World) (xa xb : Array Value) (n m : Nat) : Below w.heap.size w (initW w xa xb n m) := by
  unfold initW
  exact (((((((Below.refl _ w).alloc (Nat.le_refl _) _).alloc (by simp) _).alloc (by simp; omega) _).alloc (by simp; omega) _).alloc (by simp; omega) _).alloc (by simp; omega) _).alloc (by simp; omega) _
theorem init_pm (s : ByteArray) (w : World) (xa xb : Array Value) (n m : Nat) (hxa : xa.size = n) (hxb : xb.size = m) (hn : n ≤ maxLen) (hm : m ≤ maxLen) :
    PM (initL w) s 0 0 [] w.heap.size n [] (w.heap.size + 1 + 1) m 0 false false (.slice none 0 0) ((initW w xa xb n m).iter s 0) := by
  have hb : ∀ k o, (initW w xa xb n m).heap[k]? = some o → ((initW w xa xb n m).iter s 0).heap[k]? = some o := fun k o h => (Below.heap_alloc _ _ k (lt_of_block h)).trans h
  have e1 : (initW w xa xb n m).heap[w.heap.size]? = some (.cells xa 9 (0, 0)) := by simp only [initW, alloc_heap, Array.getElem?_push, Array.size_push]; (repeat (first | rw [if_pos trivial] | rw [if_pos rfl] | rw [if_neg (by omega)]))
  have e2 : (initW w xa xb n m).heap[w.heap.size + 1]? = some (.cells #[.slice (some ⟨w.heap.size, 0, none⟩) 0 n] 24 (0, 0)) := by simp only [initW, alloc_heap, Array.getElem?_push, Array.size_push]; (repeat (first | rw [if_pos trivial] | rw [if_pos rfl] | rw [if_neg (by omega)]))
  have e3 : (initW w xa xb n m).heap[w.heap.size + 1 + 1]? = some (.cells xb 5 (0, 0)) := by simp only [initW, alloc_heap, Array.getElem?_push, Array.size_push]; (repeat (first | rw [if_pos trivial] | rw [if_pos rfl] | rw [if_neg (by omega)]))
  have e4 : (initW w xa xb n m).heap[w.heap.size + 1 + 1 + 1]? = some (.cells #[.slice (some ⟨w.heap.size + 1 + 1, 0, none⟩) 0 m] 56 (0, 0)) := by simp only [initW, alloc_heap, Array.getElem?_push, Array.size_push]; (repeat (first | rw [if_pos trivial] | rw [if_pos rfl] | rw [if_neg (by omega)]))
  have e5 : (initW w xa xb n m).heap[w.heap.size + 1 + 1 + 1 + 1]? = some (.cells #[.int .i64 0] 67 (0, 0)) := by simp only [initW, alloc_heap, Array.getElem?_push, Array.size_push]; (repeat (first | rw [if_pos trivial] | rw [if_pos rfl] | rw [if_neg (by omega)]))
  have e6 : (initW w xa xb n m).heap[w.heap.size + 1 + 1 + 1 + 1 + 1]? = some (.cells #[.bool false] 4 (0, 0)) := by simp only [initW, alloc_heap, Array.getElem?_push, Array.size_push]; (repeat (first | rw [if_pos trivial] | rw [if_pos rfl] | rw [if_neg (by omega)]))
  have e7 : (initW w xa xb n m).heap[w.heap.size + 1 + 1 + 1 + 1 + 1 + 1]? = some (.cells #[.bool false] 4 (0, 0)) := by simp only [initW, alloc_heap, Array.getElem?_push, Array.size_push]; (repeat (first | rw [if_pos trivial] | rw [if_pos rfl] | rw [if_neg (by omega)]))
  have e8 : ((initW w xa xb n m).iter s 0).heap[w.heap.size + 1 + 1 + 1 + 1 + 1 + 1 + 1]? = some (.stringIter s 0) := by
    have := World.iter_heap (initW w xa xb n m) s 0
    rwa [initW_size] at this
  refine ⟨hb _ _ e2, ⟨rfl, .inr ⟨w.heap.size, n, xa, rfl, Nat.le_refl _, hb _ _ e1, Nat.zero_le _, hn, by rw [hxa]; omega, by simp⟩⟩, hb _ _ e4, ⟨rfl, .inr ⟨w.heap.size + 1 + 1, m, xb, rfl, by show w.heap.size ≤ _; omega, hb _ _ e3, Nat.zero_le _, hm, by rw [hxb]; omega, by simp [Lib.byteCells]⟩⟩, hb _ _ e5, hb _ _ e6, hb _ _ e7, e8,
    ⟨0, [], World.ownsRow_nil _ _ _ _, Nat.le_refl _⟩, by simp [Value.ownBlock], ?_⟩
  have := initW_size w xa xb n m
  show w.heap.size ≤ ((initW w xa xb n m).alloc _).heap.size
  rw [alloc_heap, Array.size_push]
  omega


/-- what holds at the loop's head: 'c' bytes are left -/
def INVd (L : Bl) (P : Nat) (s : ByteArray) (env cmt slp : Bool) (ANS : PA) (gv : Value) (w0 : World) (c : Nat) (a0 : Act) (wr : World) : Prop :=
  ∃ (a : List (List UInt8)) (b : List UInt8) (esc dq sq bq dl cm : Bool) (g : Nat) (tq ad : Bool) (ga ca gb cb pos n sk : Nat) (sub : Bool) (bt : Value),
    PM L s (5 * n) pos a ga ca b gb cb g tq sub bt wr ∧ Below L.B w0 wr ∧ n ≤ pos ∧ n ≤ s.size ∧ a.length ≤ n ∧ b.length ≤ 5 * n ∧ (∀ x ∈ a, x.length ≤ 1099511627776) ∧ g ≤ 2 ∧ (slp = false → sub = false ∧ sk = 0) ∧ sk ≤ 8589934592 ∧
    (slp = false → prun cmt n (rnsOf (s.data.toList.drop pos)) ⟨a, b, esc, dq, sq, bq, dl, cm, g, tq, ad⟩ = ANS) ∧ (slp = false → env = true → 36 ∉ rnsOf (s.data.toList.drop pos)) ∧ c = s.size - pos ∧ Fr 419 a0 ∧ Sl a0 0 = .pointer (some ⟨P, 0, none⟩) ∧ Sl a0 1 = .string s ∧ Sl a0 6 = .pointer (some ⟨L.A, 0, none⟩) ∧ Sl a0 7 = .pointer (some ⟨L.V, 0, none⟩) ∧ Sl a0 8 = .bool esc ∧ Sl a0 9 = .bool dq ∧ Sl a0 10 = .bool sq ∧ Sl a0 11 = .bool bq ∧ Sl a0 12 = .bool dl ∧ Sl a0 13 = .bool cm ∧ Sl a0 14 = bt ∧ Sl a0 15 = .int .i64 (-1) ∧ Sl a0 16 = .pointer (some ⟨L.G, 0, none⟩) ∧ Sl a0 17 = .pointer (some ⟨L.T, 0, none⟩) ∧ Sl a0 18 = .pointer (some ⟨L.S, 0, none⟩) ∧ Sl a0 19 = .bool ad ∧ Sl a0 20 = .int .i64 (sk : Int) ∧ Sl a0 21 = gv ∧ Sl a0 22 = .func (.func 38) #[] #[.pointer (some ⟨L.G, 0, none⟩), .pointer (some ⟨L.V, 0, none⟩), .pointer (some ⟨L.A, 0, none⟩), .pointer (some ⟨L.T, 0, none⟩), .pointer (some ⟨L.S, 0, none⟩)] ∧ Sl a0 23 = .int .i64 ((n : Int) - 1) ∧ Sl a0 50 = .pointer (some ⟨L.I, 0, none⟩)
/-- what holds behind the loop -/
def OUTd (L : Bl) (P : Nat) (s : ByteArray) (slp : Bool) (ANS : PA) (w0 : World) (a0 : Act) (wr : World) : Prop :=
  ∃ (a : List (List UInt8)) (b : List UInt8) (esc dq sq bq dl cm : Bool) (g : Nat) (tq ad : Bool) (ga ca gb cb pos m : Nat) (sub : Bool) (bt : Value) (ps : Int),
    PM L s m pos a ga ca b gb cb g tq sub bt wr ∧ Below L.B w0 wr ∧ a.length ≤ 4294967296 ∧ b.length ≤ 1099511627776 ∧ (∀ x ∈ a, x.length ≤ 1099511627776) ∧ g ≤ 2 ∧ (slp = false → pend ⟨a, b, esc, dq, sq, bq, dl, cm, g, tq, ad⟩ ps = ANS) ∧ Fr 419 a0 ∧ Sl a0 0 = .pointer (some ⟨P, 0, none⟩) ∧ Sl a0 6 = .pointer (some ⟨L.A, 0, none⟩) ∧ Sl a0 7 = .pointer (some ⟨L.V, 0, none⟩) ∧ Sl a0 8 = .bool esc ∧ Sl a0 9 = .bool dq ∧ Sl a0 10 = .bool sq ∧ Sl a0 11 = .bool bq ∧ Sl a0 12 = .bool dl ∧ Sl a0 15 = .int .i64 ps ∧ Sl a0 22 = .func (.func 38) #[] #[.pointer (some ⟨L.G, 0, none⟩), .pointer (some ⟨L.V, 0, none⟩), .pointer (some ⟨L.A, 0, none⟩), .pointer (some ⟨L.T, 0, none⟩), .pointer (some ⟨L.S, 0, none⟩)]
/-- what the reading answers -/
def PPost (P B : Nat) (slp : Bool) (ANS : PA) (E : Value) (env cmt : Bool) (pz : Int) (ex gv : Value) (w0 : World) (e : Ending) (w' : World) : Prop :=
  ∃ A : PA, (slp = false → A = ANS) ∧ w0.grownBy w' (some P) ∧
    match A with
    | none => e = .returned (.tuple #[.slice none 0 0, E]) ∧ w'.heap[P]? = some (.cells #[.bool env, .bool cmt, .int .i64 pz, ex, gv] 55 (0, 0))
    | some (l, ps) => ∃ g c, l.length ≤ 4294967297 ∧ (∀ x ∈ l, x.length ≤ 1099511627776) ∧ e = .returned (.tuple #[.slice (some ⟨g, 0, none⟩) l.length c, .nilIface]) ∧ w'.ownsRow B 9 1 (.slice (some ⟨g, 0, none⟩) l.length c) l.length (l.map strV) ∧ w'.heap[P]? = some (.cells #[.bool env, .bool cmt, .int .i64 ps, ex, gv] 55 (0, 0))

set_option maxHeartbeats 8000000 in
set_option maxRecDepth 100000 in
theorem parse_any (s : ByteArray) (env cmt slp : Bool) (ANS : PA) (hANS : slp = false → words cmt (rnsOf s.data.toList) = ANS) (hDOL : slp = false → env = true → 36 ∉ rnsOf s.data.toList) (E : Value) (P cx : Nat) (ad0 : Option Addr) (pz : Int) (gv : Value) (w : World) (hs : s.size ≤ 2147483648) (hP : w.heap[P]? = some (.cells #[.bool env, .bool cmt, .int .i64 pz, .slice ad0 0 cx, gv] 55 (0, 0)))
    (hENV : env = true → (∀ (t : ByteArray) (W : World), Below w.heap.size w W → t.size ≤ 2147483648 → ∃ (nm : ByteArray) (k : Nat) (okb : Bool), k ≤ 2147483650 ∧ Calls Tryd.prog 41 #[.string t] W fun e w' => e = .returned (.tuple #[.string nm, .int .i64 (k : Int), .bool okb]) ∧ Below W.heap.size W w') ∧
      ∃ O, gv = .func (.func 36) #[] #[.pointer (some ⟨O, 0, none⟩)] ∧ w.cell? ⟨O, 2, none⟩ = some (.slice none 0 0) ∧ O < w.heap.size)
    (hE : w.cell? ⟨0, 0, none⟩ = some E) (hEl : 0 < w.heap.size) :
    Calls Tryd.prog 26 #[.pointer (some ⟨P, 0, none⟩), .string s] w (PPost P w.heap.size slp ANS E env cmt pz (.slice ad0 0 cx) gv w) := by
  obtain ⟨i0, hi, hz0, hz1, hz2⟩ := info_parts infoStr
  obtain ⟨j0, hj, hy0, hy1, hy2⟩ := info_parts infoByte
  have HANS := Lib.hid hANS
  have HDOL := Lib.hid hDOL
  have HENV := Lib.hid hENV
  clear hANS hDOL hENV
  have c4 : w.cell? ⟨P, 4, none⟩ = some gv := by simp [World.cell?, hP]
  have hPl : P < w.heap.size := lt_of_block hP
  have HP := Lib.hid hP
  clear hP
  obtain ⟨XA, hXA⟩ : ∃ XA : Nat → Array Value, ∀ n, XA n = madeCells (Value.string ByteArray.empty).cells (n * i0.size) := ⟨_, fun _ => rfl⟩
  obtain ⟨XB, hXB⟩ : ∃ XB : Nat → Array Value, ∀ n, XB n = madeCells (Value.int .u8 0).cells (n * j0.size) := ⟨_, fun _ => rfl⟩
  have hmA : ∀ W : World, (Instr.makeSlice 24 (.int .i64 0) (.int .i64 (1 + (s.size : Int) / 8))).run Tryd.prog W = .ok (.slice (some ⟨W.heap.size, 0, none⟩) 0 (1 + s.size / 8)) (W.alloc (.cells (XA (1 + s.size / 8)) 9)) := fun W => by
    have h := run_make (P := Tryd.prog) W 24 9 i0 (.string ByteArray.empty) Tryd.underlying24 hi hz0 .i64 .i64 0 (1 + (s.size : Int) / 8) (Int.le_refl _) (by omega) (by rw [hz2]; omega) (by omega)
    have e : (1 + (s.size : Int) / 8).toNat = 1 + s.size / 8 := by omega
    rw [e, ← hXA] at h
    exact h
  have hmB : ∀ W : World, (Instr.makeSlice 56 (.int .i64 0) (.int .i64 (s.size : Int))).run Tryd.prog W = .ok (.slice (some ⟨W.heap.size, 0, none⟩) 0 s.size) (W.alloc (.cells (XB s.size) 5)) := fun W => by
    have h := run_make (P := Tryd.prog) W 56 5 j0 (.int .u8 0) Tryd.underlying56 hj hy0 .i64 .i64 0 (s.size : Int) (Int.le_refl _) (by omega) (by rw [hy2]; omega) (by omega)
    have e : (s.size : Int).toNat = s.size := by omega
    rw [e, ← hXB] at h
    exact h
  obtain ⟨nA, hnA⟩ : ∃ nA, 1 + s.size / 8 = nA := ⟨_, rfl⟩
  have HIW := Lib.hid (init_pm s w (XA nA) (XB s.size) nA s.size (by rw [hXA, size_madeCells, hz1, Nat.mul_one]) (by rw [hXB, size_madeCells, hy1, Nat.mul_one]) (by unfold maxLen; omega) (by unfold maxLen; omega))
  have HIB := Lib.hid (initW_below w (XA nA) (XB s.size) nA s.size)
  have HIS := Lib.hid (initW_size w (XA nA) (XB s.size) nA s.size)
  have HIC := Lib.hid (show (initW w (XA nA) (XB s.size) nA s.size).cell? ⟨P, 4, none⟩ = some gv from (HIB.out.cell (p := ⟨P, 4, none⟩) hPl).trans c4)
  rw [hnA] at hmA
  clear hnA hXA hXB
  go_enter Tryd.func26, Tryd.ntmps26
  go_wp2_with (fail)
  go_step3
  go_upto_region 11 with fail
  have hIW := HIW.out
  have hIC := HIC.out
  have hIS := HIS.out
  have hIB := HIB.out
  unfold initW at hIW hIC hIS hIB
  generalize ((((((w.alloc (.cells (XA nA) 9)).alloc (.cells #[.slice (some ⟨w.heap.size, 0, none⟩) 0 nA] 24)).alloc (.cells (XB s.size) 5)).alloc (.cells #[.slice (some ⟨w.heap.size + 1 + 1, 0, none⟩) 0 s.size] 56)).alloc (.cells #[.int .i64 0] 67)).alloc (.cells #[.bool false] 4)).alloc (.cells #[.bool false] 4) = W1 at hIW hIC hIS hIB ⊢
  clear c4 hmA hmB
  go_wp2_with (fail)
  go_step3
  go_upto_block 0 with fail
  obtain ⟨L, hL⟩ : ∃ L, initL w = L := ⟨_, rfl⟩
  have HL := Lib.hid hL
  have HLB := Lib.hid (show L.B = w.heap.size by rw [← hL]; rfl)
  rw [hL] at hIW
  have HW0 := Lib.hid hIW
  have HB0 := Lib.hid hIB
  have HJ := Lib.hid (And.intro hj (And.intro hy0 (And.intro hy1 hy2)))
  clear hL hIW hIC hIB HIW HIB HIS HIC hi hj hz0 hz1 hz2 hy0 hy1 hy2
  refine wp_cut (OUTd L P s slp ANS w) ?rest0 ?first0
  case first0 =>
    intro J0 K0 hJ0 hK0
    go_wp2_with fail
    refine wp_loop_ghost_k (INVd L P s env cmt slp ANS gv w) s.size ?atStart ?round
    case atStart =>
      have hIW := HW0.out
      have hIB := HB0.out
      have hL := HL.out
      subst hL
      exact ⟨[], [], false, false, false, false, false, false, 0, false, false, w.heap.size, nA, w.heap.size + 1 + 1, s.size, 0, 0, 0, false, .slice none 0 0, hIW, (hIB.alloc (by rw [hIS]; show w.heap.size ≤ _; omega) _), Nat.le_refl _, Nat.zero_le _, Nat.zero_le _, Nat.zero_le _, (fun x hx => by cases hx), Nat.zero_le _, fun _ => ⟨rfl, rfl⟩, by omega, fun h => HANS.out h, fun h h' => HDOL.out h h', rfl, ⟨rfl, rfl⟩, rfl, rfl, rfl, rfl, rfl, rfl, rfl, rfl, rfl, rfl, rfl, rfl, rfl, rfl, rfl, rfl, rfl, rfl, rfl, rfl, rfl⟩
    case round =>
      intro c a0 wr hinv J K hJ hK
      clear HW0 HB0 hIS HANS HDOL HL
      obtain ⟨a, b, esc, dq, sq, bq, dl, cm, g, tq, ad, ga, ca, gb, cb, pos, n, sk, sub, bt, hpm, hbw, hnp, hns, hal, hbl, hxa, hg2, hsl, hsk, hrun, hdol, hc, hFr, hS0, hS1, hS6, hS7, hS8, hS9, hS10, hS11, hS12, hS13, hS14, hS15, hS16, hS17, hS18, hS19, hS20, hS21, hS22, hS23, hS50⟩ := hinv

      obtain ⟨f, hf, hA⟩ := lit419 a0 hFr
      rw [hf] at hS0 hS1 hS6 hS7 hS8 hS9 hS10 hS11 hS12 hS13 hS14 hS15 hS16 hS17 hS18 hS19 hS20 hS21 hS22 hS23 hS50
      rw [hS0, hS1, hS6, hS7, hS8, hS9, hS10, hS11, hS12, hS13, hS14, hS15, hS16, hS17, hS18, hS19, hS20, hS21, hS22, hS23, hS50] at hA
      clear hf hFr hS0 hS1 hS6 hS7 hS8 hS9 hS10 hS11 hS12 hS13 hS14 hS15 hS16 hS17 hS18 hS19 hS20 hS21 hS22 hS23 hS50
      subst hA
      have HPM := Lib.hid hpm
      have HBW := Lib.hid hbw
      have HSL := Lib.hid hsl
      have HXA := Lib.hid hxa
      have HRUN := Lib.hid hrun
      have HC := Lib.hid hc
      have HDL := Lib.hid hdol
      have hit := hpm.lI
      clear hpm hbw hsl hrun hc hdol hxa
      by_cases hp : pos < s.size
      · have hnx : ∀ ty, (Instr.next (.pointer (some ⟨L.I, 0, none⟩)) true ty).run Tryd.prog wr = _ := fun ty => Lib.run_next_any_at wr L.I s pos ty hit hp
        have hwd := Lib.decode_width_pos s pos hp
        have hd1 := decode_le s pos
        have hstp := rnsOf_step s pos hp
        obtain ⟨R, hR⟩ : ∃ R, (Utf8.decode s pos).1 = R := ⟨_, rfl⟩
        obtain ⟨q, hq⟩ : ∃ q, pos + (Utf8.decode s pos).2 = q := ⟨_, rfl⟩
        have hq1 : pos < q := by omega
        obtain ⟨REST, hREST⟩ : ∃ l, rnsOf (s.data.toList.drop q) = l := ⟨_, rfl⟩
        rw [hR, hq, hREST] at hstp
        rw [hR] at hd1
        rw [hR, hq] at hnx
        have HST := Lib.hid hstp
        have HR0 := Lib.hid (fun h => by have := HRUN.out h; rw [hstp] at this; exact this)
        have HRE := Lib.hid hREST
        have HD0 := Lib.hid (fun h h' => by have := HDL.out h h'; rw [hstp] at this; exact this)
        have hpm1 := HPM.out.iter q
        have hbw1 := Lib.below_iterAt HBW.out (k := L.I) L.hI s q

        clear hstp hR hq hwd hREST HRUN HST HPM HBW HDL
        go_upto_block 1 with fail
        clear hnx hit
        generalize (wr.iterAt L.I s q) = w1 at hpm1 hbw1 ⊢
        refine wp_cut (INVd L P s env cmt slp ANS gv w (s.size - q)) ?rest1 ?first1
        case rest1 =>
          intro a1 wx hcut
          exact hK _ _ (Handed.intro (s.size - q) (by have := HC.out; omega) (hJ _ _ _ hcut))
        case first1 =>
        intro J1 K1 hJ1 hK1
        have HBW := Lib.hid hbw1
        have HPM := Lib.hid hpm1
        have HP1 := Lib.hid ((show w1.heap[P]? = w.heap[P]? from hbw1.block P (by rw [HLB.out]; exact hPl)).trans HP.out)
        have cX : w1.cell? ⟨P, 3, none⟩ = some (.slice ad0 0 cx) := by simp [World.cell?, HP1.out]
        have fG := free_of_one hpm1.lG
        have fV := free_of_one hpm1.lV
        have fT := free_of_one hpm1.lT
        have fS := free_of_one hpm1.lS
        have cG := cell_of_one hpm1.lG
        have cV := cell_of_one hpm1.lV
        have cT := cell_of_one hpm1.lT
        have cS := cell_of_one hpm1.lS
        have HE := Lib.hid (enc_facts (R : Int) R rfl)
        have hn1 : (n : Int) ≤ 2147483648 := by omega
        clear hpm1 hbw1
        by_cases hskp : pos < sk
        · have hz : (pos : Int) < (sk : Int) := by omega
          have hslp : slp = true := by
            cases hh : slp with
            | true => rfl
            | false => have := (HSL.out hh).2; omega
          subst hslp
          go_wp2_with fail
          refine Met.intro ?_
          go_step
          exact ⟨a, b, esc, dq, sq, bq, dl, cm, g, tq, ad, ga, ca, gb, cb, q, n + 1, sk, sub, bt, HPM.out.more (by omega), HBW.out, (by omega), (by omega), (by omega), (by omega), HXA.out, hg2, (fun h => by cases h), (by first | assumption | omega), (fun h => by cases h), (fun h h' => by rw [HRE.out]; exact fun m => HD0.out h (by first | exact h' | trivial) (List.mem_cons_of_mem _ m)), rfl, ⟨rfl, rfl⟩, rfl, rfl, rfl, rfl, rfl, rfl, rfl, rfl, rfl, rfl, rfl, rfl, rfl, rfl, rfl, rfl, rfl, rfl, rfl, (congrArg (Value.int .i64) (show (n : Int) = ((n + 1 : Nat) : Int) - 1 by omega)), rfl⟩
        have hz : ¬ (pos : Int) < (sk : Int) := by omega
        clear hskp
        go_upto_if 61 with fail
        cases cm with
        | true =>
          by_cases h10 : R = 10
          · subst h10
            go_wp2_with fail
            refine Met.intro ?_
            go_step
            exact ⟨a, b, esc, dq, sq, bq, dl, false, g, false, false, ga, ca, gb, cb, q, n + 1, sk, sub, bt, (HPM.out.setT false).more (by omega), HBW.out.setCell L.hT _, (by omega), (by omega), (by omega), (by omega), HXA.out, hg2, HSL.out, (by first | assumption | omega), (fun h => by rw [HRE.out]; exact prun_go (pstep_cm10) (HR0.out h)), (fun h h' => by rw [HRE.out]; exact fun m => HD0.out h (by first | exact h' | trivial) (List.mem_cons_of_mem _ m)), rfl, ⟨rfl, rfl⟩, rfl, rfl, rfl, rfl, rfl, rfl, rfl, rfl, rfl, rfl, rfl, rfl, rfl, rfl, rfl, rfl, rfl, rfl, rfl, (congrArg (Value.int .i64) (show (n : Int) = ((n + 1 : Nat) : Int) - 1 by omega)), rfl⟩
          · have e10 : ((R : Int) == 10) = false := by rw [beq_eq_false_iff_ne]; omega
            have H10 := Lib.hid h10
            clear h10
            go_wp2_with fail
            refine Met.intro ?_
            go_step
            exact ⟨a, b, esc, dq, sq, bq, dl, true, g, tq, false, ga, ca, gb, cb, q, n + 1, sk, sub, bt, HPM.out.more (by omega), HBW.out, (by omega), (by omega), (by omega), (by omega), HXA.out, hg2, HSL.out, (by first | assumption | omega), (fun h => by rw [HRE.out]; exact prun_go (pstep_cm H10.out) (HR0.out h)), (fun h h' => by rw [HRE.out]; exact fun m => HD0.out h (by first | exact h' | trivial) (List.mem_cons_of_mem _ m)), rfl, ⟨rfl, rfl⟩, rfl, rfl, rfl, rfl, rfl, rfl, rfl, rfl, rfl, rfl, rfl, rfl, rfl, rfl, rfl, rfl, rfl, rfl, rfl, (congrArg (Value.int .i64) (show (n : Int) = ((n + 1 : Nat) : Int) - 1 by omega)), rfl⟩
        | false =>
        go_upto_if 64 with fail
        cases esc with
        | true =>
          as_aux_lemma =>
            go_upto_region 28 with fail
            have hpm := HPM.out.setT true
            have hbw := HBW.out.setCell (p := ⟨L.T, 0, none⟩) L.hT (.bool true)
            clear HPM HBW fG fV fT fS cG cV cT cS
            generalize (w1.setCell ⟨L.T, 0, none⟩ (.bool true)) = w2 at hpm hbw ⊢
            have fG := free_of_one hpm.lG
            have fV := free_of_one hpm.lV
            have fT := free_of_one hpm.lT
            have fS := free_of_one hpm.lS
            have cG := cell_of_one hpm.lG
            have cV := cell_of_one hpm.lV
            have cT := cell_of_one hpm.lT
            have cS := cell_of_one hpm.lS
            have HPM := Lib.hid hpm
            have HBW := Lib.hid hbw
            clear hpm hbw
            cases bq with
            | true =>
              go_upto_region 29 with fail
              go_wp2_with (at_builtin; refine wpList_append_own_at _ rfl _ _ 56 rfl L.B 5 j0 (.int .u8 0) 1 1 Tryd.underlying56 HJ.out.1 HJ.out.2.1 HJ.out.2.2.1 HJ.out.2.2.2 rfl (by decide) _ _ _ rfl (HPM.out.oV.alloc _) ⟨w2.heap.size, 0, none⟩ 1 1 [.int .u8 92] rfl rfl ?h1a ?h1b ?h1c ?h1d ?h1e ?_)
              first | (case h1a => exact cell_one_new _ _ _) | skip
              case h1b => first | rfl | (intro u hu; simp at hu; subst hu; rfl)
              case h1c => unfold maxLen; (try simp only [List.length_append, List.length_cons, List.length_nil]); omega
              case h1d => (try simp only [List.length_append, List.length_cons, List.length_nil]); omega
              case h1e => have := HPM.out.lB; simp; omega
              intro v1 w3a ho hg _ hat
              obtain ⟨g3, c3, rfl, hV1, hpm⟩ := (HPM.out.alloc (.cells #[.int .u8 92] 5)).app (l := [92]) hg (by simpa [Lib.byteCells] using ho) (hat.imp (fun h => h) (fun h => by simpa using h))
              have hbw := (((HBW.out.alloc HPM.out.lB (.cells #[.int .u8 92] 5)).grown hg (by have := HPM.out.lB; simp; omega) (fun k hk => (HPM.out.oV.lt k hk).1))).setCell (p := ⟨L.V, 0, none⟩) L.hV (.slice (some ⟨g3, 0, none⟩) ((b).length + ([92]).length) c3)
              have fV1 := free_of_one hV1
              have cV1 := cell_of_one hV1
              clear hV1 ho hg hat
              clear HPM HBW fG fV fT fS cG cV cT cS
              go_upto_region 30 with fail
              clear fV1 cV1
              generalize (w3a.setCell ⟨L.V, 0, none⟩ (.slice (some ⟨g3, 0, none⟩) ((b).length + ([92]).length) c3)) = w3 at hpm hbw ⊢
              obtain ⟨b3, hb3⟩ : ∃ x, b ++ [92] = x := ⟨_, rfl⟩
              have hl3 : b3.length ≤ b.length + 1 := by rw [← hb3, List.length_append]; have := HE.out.1; simp; try omega
              rw [hb3] at hpm
              have HB3 := Lib.hid hb3
              clear hb3
              have fG := free_of_one hpm.lG
              have fV := free_of_one hpm.lV
              have fT := free_of_one hpm.lT
              have fS := free_of_one hpm.lS
              have cG := cell_of_one hpm.lG
              have cV := cell_of_one hpm.lV
              have cT := cell_of_one hpm.lT
              have cS := cell_of_one hpm.lS
              have HPM := Lib.hid hpm
              have HBW := Lib.hid hbw
              clear hpm hbw
              go_wp2_with (at_builtin; go_loud (refine wpList_app_str rfl _ _ 56 9 rfl L.B 5 j0 Tryd.underlying56 Tryd.underlying9 HJ.out.1 HJ.out.2.1 HJ.out.2.2.1 HJ.out.2.2.2 _ _ _ rfl HPM.out.oV (Utf8.encode (R : Int)) rfl ?h2a ?h2b ?_))
              case h2a => have := HE.out.1; have := HE.out.2.1; (try simp only [List.length_append, List.length_cons, List.length_nil]); omega
              case h2b => exact HPM.out.lB
              intro v1 w4a ho hg hat
              rw [HE.out.2.1, HE.out.2.2] at ho
              obtain ⟨g4, c4, rfl, hV1, hpm⟩ := HPM.out.app hg ho hat
              have hbw := (HBW.out.grown hg HPM.out.lB (fun k hk => (HPM.out.oV.lt k hk).1)).setCell (p := ⟨L.V, 0, none⟩) L.hV (.slice (some ⟨g4, 0, none⟩) ((b3).length + (encN R).length) c4)
              have fV1 := free_of_one hV1
              have cV1 := cell_of_one hV1
              clear hV1 ho hg hat
              clear HPM HBW fG fV fT fS cG cV cT cS
              go_upto_region 31 with fail
              clear fV1 cV1
              generalize (w4a.setCell ⟨L.V, 0, none⟩ (.slice (some ⟨g4, 0, none⟩) ((b3).length + (encN R).length) c4)) = w4 at hpm hbw ⊢
              obtain ⟨b4, hb4⟩ : ∃ x, b3 ++ encN R = x := ⟨_, rfl⟩
              have hl4 : b4.length ≤ b3.length + 4 := by rw [← hb4, List.length_append]; have := HE.out.1; simp; try omega
              rw [hb4] at hpm
              have HB4 := Lib.hid hb4
              clear hb4
              have fG := free_of_one hpm.lG
              have fV := free_of_one hpm.lV
              have fT := free_of_one hpm.lT
              have fS := free_of_one hpm.lS
              have cG := cell_of_one hpm.lG
              have cV := cell_of_one hpm.lV
              have cT := cell_of_one hpm.lT
              have cS := cell_of_one hpm.lS
              have HPM := Lib.hid hpm
              have HBW := Lib.hid hbw
              clear hpm hbw
              obtain ⟨nb5, xb5, hob5, hnb5⟩ := HPM.out.oB
              have HOB := Lib.hid hob5
              clear hob5
              go_wp2_with (at_builtin; refine wpList_append_own_at _ rfl _ _ 56 rfl L.B 5 j0 (.int .u8 0) 1 1 Tryd.underlying56 HJ.out.1 HJ.out.2.1 HJ.out.2.2.1 HJ.out.2.2.2 rfl (by decide) _ _ _ rfl (HOB.out.alloc _) ⟨w4.heap.size, 0, none⟩ 1 1 [.int .u8 92] rfl rfl ?h3a ?h3b ?h3c ?h3d ?h3e ?_)
              first | (case h3a => exact cell_one_new _ _ _) | skip
              case h3b => first | rfl | (intro u hu; simp at hu; subst hu; rfl)
              case h3c => unfold maxLen; omega
              case h3d => omega
              case h3e => have := HPM.out.lB; simp; omega
              intro v5 w5 ho hg _ hat
              have hpm := (HPM.out.alloc (.cells #[.int .u8 92] 5)).appB hg ho (hat.imp (fun h => h) (fun h => by simpa using h)) (m' := 5 * n + 1) (by omega)
              have hbw := (HBW.out.alloc HPM.out.lB (.cells #[.int .u8 92] 5)).grown hg (by have := HPM.out.lB; simp; omega) (fun k hk => (HOB.out.lt k hk).1)
              clear ho hg hat HOB
              clear HPM HBW fG fV fT fS cG cV cT cS
              have fG := free_of_one hpm.lG
              have fV := free_of_one hpm.lV
              have fT := free_of_one hpm.lT
              have fS := free_of_one hpm.lS
              have cG := cell_of_one hpm.lG
              have cV := cell_of_one hpm.lV
              have cT := cell_of_one hpm.lT
              have cS := cell_of_one hpm.lS
              have HPM := Lib.hid hpm
              have HBW := Lib.hid hbw
              clear hpm hbw
              obtain ⟨nb6, xb6, hob6, hnb6⟩ := HPM.out.oB
              have HOB := Lib.hid hob6
              clear hob6
              go_wp2_with (at_builtin; go_loud (refine wpList_app_str rfl _ _ 56 9 rfl L.B 5 j0 Tryd.underlying56 Tryd.underlying9 HJ.out.1 HJ.out.2.1 HJ.out.2.2.1 HJ.out.2.2.2 _ _ _ rfl HOB.out (Utf8.encode (R : Int)) rfl ?h4a ?h4b ?_))
              case h4a => have := HE.out.1; have := HE.out.2.1; omega
              case h4b => exact HPM.out.lB
              intro v6 w6 ho hg hat
              have hpm := HPM.out.appB hg ho hat (m' := 5 * (n + 1)) (by have := HE.out.1; have := HE.out.2.1; omega)
              have hbw := HBW.out.grown hg HPM.out.lB (fun k hk => (HOB.out.lt k hk).1)
              clear ho hg hat HOB
              clear HPM HBW fG fV fT fS cG cV cT cS
              have fG := free_of_one hpm.lG
              have fV := free_of_one hpm.lV
              have fT := free_of_one hpm.lT
              have fS := free_of_one hpm.lS
              have cG := cell_of_one hpm.lG
              have cV := cell_of_one hpm.lV
              have cT := cell_of_one hpm.lT
              have cS := cell_of_one hpm.lS
              have HPM := Lib.hid hpm
              have HBW := Lib.hid hbw
              clear hpm hbw
              go_wp2_with fail
              refine Met.intro ?_
              go_step
              exact ⟨a, b4, false, dq, sq, true, dl, false, 1, true, false, ga, ca, g4, c4, q, n + 1, sk, sub, v6, (HPM.out.setG 1).more (by omega), HBW.out.setCell L.hG _, (by omega), (by omega), (by omega), (by omega), HXA.out, (by omega), HSL.out, (by first | assumption | omega), (fun h => by rw [HRE.out, ← HB4.out, ← HB3.out]; exact prun_go (pstep_escq (by simp)) (HR0.out h)), (fun h h' => by rw [HRE.out]; exact fun m => HD0.out h (by first | exact h' | trivial) (List.mem_cons_of_mem _ m)), rfl, ⟨rfl, rfl⟩, rfl, rfl, rfl, rfl, rfl, rfl, rfl, rfl, rfl, rfl, rfl, rfl, rfl, rfl, rfl, rfl, rfl, rfl, rfl, (congrArg (Value.int .i64) (show (n : Int) = ((n + 1 : Nat) : Int) - 1 by omega)), rfl⟩
            | false =>
            cases dl with
            | true =>
              go_upto_region 29 with fail
              go_wp2_with (at_builtin; refine wpList_append_own_at _ rfl _ _ 56 rfl L.B 5 j0 (.int .u8 0) 1 1 Tryd.underlying56 HJ.out.1 HJ.out.2.1 HJ.out.2.2.1 HJ.out.2.2.2 rfl (by decide) _ _ _ rfl (HPM.out.oV.alloc _) ⟨w2.heap.size, 0, none⟩ 1 1 [.int .u8 92] rfl rfl ?h5a ?h5b ?h5c ?h5d ?h5e ?_)
              first | (case h5a => exact cell_one_new _ _ _) | skip
              case h5b => first | rfl | (intro u hu; simp at hu; subst hu; rfl)
              case h5c => unfold maxLen; (try simp only [List.length_append, List.length_cons, List.length_nil]); omega
              case h5d => (try simp only [List.length_append, List.length_cons, List.length_nil]); omega
              case h5e => have := HPM.out.lB; simp; omega
              intro v1 w3a ho hg _ hat
              obtain ⟨g3, c3, rfl, hV1, hpm⟩ := (HPM.out.alloc (.cells #[.int .u8 92] 5)).app (l := [92]) hg (by simpa [Lib.byteCells] using ho) (hat.imp (fun h => h) (fun h => by simpa using h))
              have hbw := (((HBW.out.alloc HPM.out.lB (.cells #[.int .u8 92] 5)).grown hg (by have := HPM.out.lB; simp; omega) (fun k hk => (HPM.out.oV.lt k hk).1))).setCell (p := ⟨L.V, 0, none⟩) L.hV (.slice (some ⟨g3, 0, none⟩) ((b).length + ([92]).length) c3)
              have fV1 := free_of_one hV1
              have cV1 := cell_of_one hV1
              clear hV1 ho hg hat
              clear HPM HBW fG fV fT fS cG cV cT cS
              go_upto_region 30 with fail
              clear fV1 cV1
              generalize (w3a.setCell ⟨L.V, 0, none⟩ (.slice (some ⟨g3, 0, none⟩) ((b).length + ([92]).length) c3)) = w3 at hpm hbw ⊢
              obtain ⟨b3, hb3⟩ : ∃ x, b ++ [92] = x := ⟨_, rfl⟩
              have hl3 : b3.length ≤ b.length + 1 := by rw [← hb3, List.length_append]; have := HE.out.1; simp; try omega
              rw [hb3] at hpm
              have HB3 := Lib.hid hb3
              clear hb3
              have fG := free_of_one hpm.lG
              have fV := free_of_one hpm.lV
              have fT := free_of_one hpm.lT
              have fS := free_of_one hpm.lS
              have cG := cell_of_one hpm.lG
              have cV := cell_of_one hpm.lV
              have cT := cell_of_one hpm.lT
              have cS := cell_of_one hpm.lS
              have HPM := Lib.hid hpm
              have HBW := Lib.hid hbw
              clear hpm hbw
              go_wp2_with (at_builtin; go_loud (refine wpList_app_str rfl _ _ 56 9 rfl L.B 5 j0 Tryd.underlying56 Tryd.underlying9 HJ.out.1 HJ.out.2.1 HJ.out.2.2.1 HJ.out.2.2.2 _ _ _ rfl HPM.out.oV (Utf8.encode (R : Int)) rfl ?h6a ?h6b ?_))
              case h6a => have := HE.out.1; have := HE.out.2.1; (try simp only [List.length_append, List.length_cons, List.length_nil]); omega
              case h6b => exact HPM.out.lB
              intro v1 w4a ho hg hat
              rw [HE.out.2.1, HE.out.2.2] at ho
              obtain ⟨g4, c4, rfl, hV1, hpm⟩ := HPM.out.app hg ho hat
              have hbw := (HBW.out.grown hg HPM.out.lB (fun k hk => (HPM.out.oV.lt k hk).1)).setCell (p := ⟨L.V, 0, none⟩) L.hV (.slice (some ⟨g4, 0, none⟩) ((b3).length + (encN R).length) c4)
              have fV1 := free_of_one hV1
              have cV1 := cell_of_one hV1
              clear hV1 ho hg hat
              clear HPM HBW fG fV fT fS cG cV cT cS
              go_upto_region 31 with fail
              clear fV1 cV1
              generalize (w4a.setCell ⟨L.V, 0, none⟩ (.slice (some ⟨g4, 0, none⟩) ((b3).length + (encN R).length) c4)) = w4 at hpm hbw ⊢
              obtain ⟨b4, hb4⟩ : ∃ x, b3 ++ encN R = x := ⟨_, rfl⟩
              have hl4 : b4.length ≤ b3.length + 4 := by rw [← hb4, List.length_append]; have := HE.out.1; simp; try omega
              rw [hb4] at hpm
              have HB4 := Lib.hid hb4
              clear hb4
              have fG := free_of_one hpm.lG
              have fV := free_of_one hpm.lV
              have fT := free_of_one hpm.lT
              have fS := free_of_one hpm.lS
              have cG := cell_of_one hpm.lG
              have cV := cell_of_one hpm.lV
              have cT := cell_of_one hpm.lT
              have cS := cell_of_one hpm.lS
              have HPM := Lib.hid hpm
              have HBW := Lib.hid hbw
              clear hpm hbw
              obtain ⟨nb5, xb5, hob5, hnb5⟩ := HPM.out.oB
              have HOB := Lib.hid hob5
              clear hob5
              go_wp2_with (at_builtin; refine wpList_append_own_at _ rfl _ _ 56 rfl L.B 5 j0 (.int .u8 0) 1 1 Tryd.underlying56 HJ.out.1 HJ.out.2.1 HJ.out.2.2.1 HJ.out.2.2.2 rfl (by decide) _ _ _ rfl (HOB.out.alloc _) ⟨w4.heap.size, 0, none⟩ 1 1 [.int .u8 92] rfl rfl ?h7a ?h7b ?h7c ?h7d ?h7e ?_)
              first | (case h7a => exact cell_one_new _ _ _) | skip
              case h7b => first | rfl | (intro u hu; simp at hu; subst hu; rfl)
              case h7c => unfold maxLen; omega
              case h7d => omega
              case h7e => have := HPM.out.lB; simp; omega
              intro v5 w5 ho hg _ hat
              have hpm := (HPM.out.alloc (.cells #[.int .u8 92] 5)).appB hg ho (hat.imp (fun h => h) (fun h => by simpa using h)) (m' := 5 * n + 1) (by omega)
              have hbw := (HBW.out.alloc HPM.out.lB (.cells #[.int .u8 92] 5)).grown hg (by have := HPM.out.lB; simp; omega) (fun k hk => (HOB.out.lt k hk).1)
              clear ho hg hat HOB
              clear HPM HBW fG fV fT fS cG cV cT cS
              have fG := free_of_one hpm.lG
              have fV := free_of_one hpm.lV
              have fT := free_of_one hpm.lT
              have fS := free_of_one hpm.lS
              have cG := cell_of_one hpm.lG
              have cV := cell_of_one hpm.lV
              have cT := cell_of_one hpm.lT
              have cS := cell_of_one hpm.lS
              have HPM := Lib.hid hpm
              have HBW := Lib.hid hbw
              clear hpm hbw
              obtain ⟨nb6, xb6, hob6, hnb6⟩ := HPM.out.oB
              have HOB := Lib.hid hob6
              clear hob6
              go_wp2_with (at_builtin; go_loud (refine wpList_app_str rfl _ _ 56 9 rfl L.B 5 j0 Tryd.underlying56 Tryd.underlying9 HJ.out.1 HJ.out.2.1 HJ.out.2.2.1 HJ.out.2.2.2 _ _ _ rfl HOB.out (Utf8.encode (R : Int)) rfl ?h8a ?h8b ?_))
              case h8a => have := HE.out.1; have := HE.out.2.1; omega
              case h8b => exact HPM.out.lB
              intro v6 w6 ho hg hat
              have hpm := HPM.out.appB hg ho hat (m' := 5 * (n + 1)) (by have := HE.out.1; have := HE.out.2.1; omega)
              have hbw := HBW.out.grown hg HPM.out.lB (fun k hk => (HOB.out.lt k hk).1)
              clear ho hg hat HOB
              clear HPM HBW fG fV fT fS cG cV cT cS
              have fG := free_of_one hpm.lG
              have fV := free_of_one hpm.lV
              have fT := free_of_one hpm.lT
              have fS := free_of_one hpm.lS
              have cG := cell_of_one hpm.lG
              have cV := cell_of_one hpm.lV
              have cT := cell_of_one hpm.lT
              have cS := cell_of_one hpm.lS
              have HPM := Lib.hid hpm
              have HBW := Lib.hid hbw
              clear hpm hbw
              go_wp2_with fail
              refine Met.intro ?_
              go_step
              exact ⟨a, b4, false, dq, sq, false, true, false, 1, true, false, ga, ca, g4, c4, q, n + 1, sk, sub, v6, (HPM.out.setG 1).more (by omega), HBW.out.setCell L.hG _, (by omega), (by omega), (by omega), (by omega), HXA.out, (by omega), HSL.out, (by first | assumption | omega), (fun h => by rw [HRE.out, ← HB4.out, ← HB3.out]; exact prun_go (pstep_escq (by simp)) (HR0.out h)), (fun h h' => by rw [HRE.out]; exact fun m => HD0.out h (by first | exact h' | trivial) (List.mem_cons_of_mem _ m)), rfl, ⟨rfl, rfl⟩, rfl, rfl, rfl, rfl, rfl, rfl, rfl, rfl, rfl, rfl, rfl, rfl, rfl, rfl, rfl, rfl, rfl, rfl, rfl, (congrArg (Value.int .i64) (show (n : Int) = ((n + 1 : Nat) : Int) - 1 by omega)), rfl⟩
            | false =>
            by_cases h116 : R = 116
            · subst h116
              have HE := Lib.hid (enc_facts 9 9 rfl)
              go_upto_region 38 with fail
              go_wp2_with (at_builtin; go_loud (refine wpList_app_str rfl _ _ 56 9 rfl L.B 5 j0 Tryd.underlying56 Tryd.underlying9 HJ.out.1 HJ.out.2.1 HJ.out.2.2.1 HJ.out.2.2.2 _ _ _ rfl HPM.out.oV (Utf8.encode (9 : Int)) rfl ?h9a ?h9b ?_))
              case h9a => have := HE.out.1; have := HE.out.2.1; (try simp only [List.length_append, List.length_cons, List.length_nil]); omega
              case h9b => exact HPM.out.lB
              intro v1 w3a ho hg hat
              rw [HE.out.2.1, HE.out.2.2] at ho
              obtain ⟨g3, c3, rfl, hV1, hpm⟩ := HPM.out.app hg ho hat
              have hbw := (HBW.out.grown hg HPM.out.lB (fun k hk => (HPM.out.oV.lt k hk).1)).setCell (p := ⟨L.V, 0, none⟩) L.hV (.slice (some ⟨g3, 0, none⟩) ((b).length + (encN 9).length) c3)
              have fV1 := free_of_one hV1
              have cV1 := cell_of_one hV1
              clear hV1 ho hg hat
              clear HPM HBW fG fV fT fS cG cV cT cS
              go_upto_region 39 with fail
              clear fV1 cV1
              generalize (w3a.setCell ⟨L.V, 0, none⟩ (.slice (some ⟨g3, 0, none⟩) ((b).length + (encN 9).length) c3)) = w3 at hpm hbw ⊢
              obtain ⟨b3, hb3⟩ : ∃ x, b ++ encN 9 = x := ⟨_, rfl⟩
              have hl3 : b3.length ≤ b.length + 4 := by rw [← hb3, List.length_append]; have := HE.out.1; simp; try omega
              rw [hb3] at hpm
              have HB3 := Lib.hid hb3
              clear hb3
              have fG := free_of_one hpm.lG
              have fV := free_of_one hpm.lV
              have fT := free_of_one hpm.lT
              have fS := free_of_one hpm.lS
              have cG := cell_of_one hpm.lG
              have cV := cell_of_one hpm.lV
              have cT := cell_of_one hpm.lT
              have cS := cell_of_one hpm.lS
              have HPM := Lib.hid hpm
              have HBW := Lib.hid hbw
              clear hpm hbw
              go_wp2_with fail
              refine Met.intro ?_
              go_step
              exact ⟨a, b3, false, dq, sq, false, false, false, 1, true, false, ga, ca, g3, c3, q, n + 1, sk, sub, bt, (HPM.out.setG 1).more (by omega), HBW.out.setCell L.hG _, (by omega), (by omega), (by omega), (by omega), HXA.out, (by omega), HSL.out, (by first | assumption | omega), (fun h => by rw [HRE.out, ← HB3.out]; have := prun_go pstep_esc (HR0.out h);  exact this), (fun h h' => by rw [HRE.out]; exact fun m => HD0.out h (by first | exact h' | trivial) (List.mem_cons_of_mem _ m)), rfl, ⟨rfl, rfl⟩, rfl, rfl, rfl, rfl, rfl, rfl, rfl, rfl, rfl, rfl, rfl, rfl, rfl, rfl, rfl, rfl, rfl, rfl, rfl, (congrArg (Value.int .i64) (show (n : Int) = ((n + 1 : Nat) : Int) - 1 by omega)), rfl⟩
            by_cases h110 : R = 110
            · subst h110
              have HE := Lib.hid (enc_facts 10 10 rfl)
              go_upto_region 38 with fail
              go_wp2_with (at_builtin; go_loud (refine wpList_app_str rfl _ _ 56 9 rfl L.B 5 j0 Tryd.underlying56 Tryd.underlying9 HJ.out.1 HJ.out.2.1 HJ.out.2.2.1 HJ.out.2.2.2 _ _ _ rfl HPM.out.oV (Utf8.encode (10 : Int)) rfl ?h10a ?h10b ?_))
              case h10a => have := HE.out.1; have := HE.out.2.1; (try simp only [List.length_append, List.length_cons, List.length_nil]); omega
              case h10b => exact HPM.out.lB
              intro v1 w3a ho hg hat
              rw [HE.out.2.1, HE.out.2.2] at ho
              obtain ⟨g3, c3, rfl, hV1, hpm⟩ := HPM.out.app hg ho hat
              have hbw := (HBW.out.grown hg HPM.out.lB (fun k hk => (HPM.out.oV.lt k hk).1)).setCell (p := ⟨L.V, 0, none⟩) L.hV (.slice (some ⟨g3, 0, none⟩) ((b).length + (encN 10).length) c3)
              have fV1 := free_of_one hV1
              have cV1 := cell_of_one hV1
              clear hV1 ho hg hat
              clear HPM HBW fG fV fT fS cG cV cT cS
              go_upto_region 39 with fail
              clear fV1 cV1
              generalize (w3a.setCell ⟨L.V, 0, none⟩ (.slice (some ⟨g3, 0, none⟩) ((b).length + (encN 10).length) c3)) = w3 at hpm hbw ⊢
              obtain ⟨b3, hb3⟩ : ∃ x, b ++ encN 10 = x := ⟨_, rfl⟩
              have hl3 : b3.length ≤ b.length + 4 := by rw [← hb3, List.length_append]; have := HE.out.1; simp; try omega
              rw [hb3] at hpm
              have HB3 := Lib.hid hb3
              clear hb3
              have fG := free_of_one hpm.lG
              have fV := free_of_one hpm.lV
              have fT := free_of_one hpm.lT
              have fS := free_of_one hpm.lS
              have cG := cell_of_one hpm.lG
              have cV := cell_of_one hpm.lV
              have cT := cell_of_one hpm.lT
              have cS := cell_of_one hpm.lS
              have HPM := Lib.hid hpm
              have HBW := Lib.hid hbw
              clear hpm hbw
              go_wp2_with fail
              refine Met.intro ?_
              go_step
              exact ⟨a, b3, false, dq, sq, false, false, false, 1, true, false, ga, ca, g3, c3, q, n + 1, sk, sub, bt, (HPM.out.setG 1).more (by omega), HBW.out.setCell L.hG _, (by omega), (by omega), (by omega), (by omega), HXA.out, (by omega), HSL.out, (by first | assumption | omega), (fun h => by rw [HRE.out, ← HB3.out]; have := prun_go pstep_esc (HR0.out h);  exact this), (fun h h' => by rw [HRE.out]; exact fun m => HD0.out h (by first | exact h' | trivial) (List.mem_cons_of_mem _ m)), rfl, ⟨rfl, rfl⟩, rfl, rfl, rfl, rfl, rfl, rfl, rfl, rfl, rfl, rfl, rfl, rfl, rfl, rfl, rfl, rfl, rfl, rfl, rfl, (congrArg (Value.int .i64) (show (n : Int) = ((n + 1 : Nat) : Int) - 1 by omega)), rfl⟩
            have e116 : ((R : Int) == 116) = false := by rw [beq_eq_false_iff_ne]; omega
            have e110 : ((R : Int) == 110) = false := by rw [beq_eq_false_iff_ne]; omega
            have HER := Lib.hid (show escR R = R by unfold escR; rw [if_neg h116, if_neg h110])
            clear h116 h110
            go_upto_region 38 with fail
            go_wp2_with (at_builtin; go_loud (refine wpList_app_str rfl _ _ 56 9 rfl L.B 5 j0 Tryd.underlying56 Tryd.underlying9 HJ.out.1 HJ.out.2.1 HJ.out.2.2.1 HJ.out.2.2.2 _ _ _ rfl HPM.out.oV (Utf8.encode (R : Int)) rfl ?h11a ?h11b ?_))
            case h11a => have := HE.out.1; have := HE.out.2.1; (try simp only [List.length_append, List.length_cons, List.length_nil]); omega
            case h11b => exact HPM.out.lB
            intro v1 w3a ho hg hat
            rw [HE.out.2.1, HE.out.2.2] at ho
            obtain ⟨g3, c3, rfl, hV1, hpm⟩ := HPM.out.app hg ho hat
            have hbw := (HBW.out.grown hg HPM.out.lB (fun k hk => (HPM.out.oV.lt k hk).1)).setCell (p := ⟨L.V, 0, none⟩) L.hV (.slice (some ⟨g3, 0, none⟩) ((b).length + (encN R).length) c3)
            have fV1 := free_of_one hV1
            have cV1 := cell_of_one hV1
            clear hV1 ho hg hat
            clear HPM HBW fG fV fT fS cG cV cT cS
            go_upto_region 39 with fail
            clear fV1 cV1
            generalize (w3a.setCell ⟨L.V, 0, none⟩ (.slice (some ⟨g3, 0, none⟩) ((b).length + (encN R).length) c3)) = w3 at hpm hbw ⊢
            obtain ⟨b3, hb3⟩ : ∃ x, b ++ encN R = x := ⟨_, rfl⟩
            have hl3 : b3.length ≤ b.length + 4 := by rw [← hb3, List.length_append]; have := HE.out.1; simp; try omega
            rw [hb3] at hpm
            have HB3 := Lib.hid hb3
            clear hb3
            have fG := free_of_one hpm.lG
            have fV := free_of_one hpm.lV
            have fT := free_of_one hpm.lT
            have fS := free_of_one hpm.lS
            have cG := cell_of_one hpm.lG
            have cV := cell_of_one hpm.lV
            have cT := cell_of_one hpm.lT
            have cS := cell_of_one hpm.lS
            have HPM := Lib.hid hpm
            have HBW := Lib.hid hbw
            clear hpm hbw
            go_wp2_with fail
            refine Met.intro ?_
            go_step
            exact ⟨a, b3, false, dq, sq, false, false, false, 1, true, false, ga, ca, g3, c3, q, n + 1, sk, sub, bt, (HPM.out.setG 1).more (by omega), HBW.out.setCell L.hG _, (by omega), (by omega), (by omega), (by omega), HXA.out, (by omega), HSL.out, (by first | assumption | omega), (fun h => by rw [HRE.out, ← HB3.out]; have := prun_go pstep_esc (HR0.out h); rw [HER.out] at this; exact this), (fun h h' => by rw [HRE.out]; exact fun m => HD0.out h (by first | exact h' | trivial) (List.mem_cons_of_mem _ m)), rfl, ⟨rfl, rfl⟩, rfl, rfl, rfl, rfl, rfl, rfl, rfl, rfl, rfl, rfl, rfl, rfl, rfl, rfl, rfl, rfl, rfl, rfl, rfl, (congrArg (Value.int .i64) (show (n : Int) = ((n + 1 : Nat) : Int) - 1 by omega)), rfl⟩
        | false =>
        by_cases h92 : R = 92
        · subst h92
          cases sq with
          | true =>
            go_upto_region 42 with fail
            go_wp2_with (at_builtin; refine wpList_append_own_at _ rfl _ _ 56 rfl L.B 5 j0 (.int .u8 0) 1 1 Tryd.underlying56 HJ.out.1 HJ.out.2.1 HJ.out.2.2.1 HJ.out.2.2.2 rfl (by decide) _ _ _ rfl (HPM.out.oV.alloc _) ⟨w1.heap.size, 0, none⟩ 1 1 [.int .u8 92] rfl rfl ?h12a ?h12b ?h12c ?h12d ?h12e ?_)
            first | (case h12a => exact cell_one_new _ _ _) | skip
            case h12b => first | rfl | (intro u hu; simp at hu; subst hu; rfl)
            case h12c => unfold maxLen; (try simp only [List.length_append, List.length_cons, List.length_nil]); omega
            case h12d => (try simp only [List.length_append, List.length_cons, List.length_nil]); omega
            case h12e => have := HPM.out.lB; simp; omega
            intro v1 w3a ho hg _ hat
            obtain ⟨g3, c3, rfl, hV1, hpm⟩ := (HPM.out.alloc (.cells #[.int .u8 92] 5)).app (l := [92]) hg (by simpa [Lib.byteCells] using ho) (hat.imp (fun h => h) (fun h => by simpa using h))
            have hbw := (((HBW.out.alloc HPM.out.lB (.cells #[.int .u8 92] 5)).grown hg (by have := HPM.out.lB; simp; omega) (fun k hk => (HPM.out.oV.lt k hk).1))).setCell (p := ⟨L.V, 0, none⟩) L.hV (.slice (some ⟨g3, 0, none⟩) ((b).length + ([92]).length) c3)
            have fV1 := free_of_one hV1
            have cV1 := cell_of_one hV1
            clear hV1 ho hg hat
            clear HPM HBW fG fV fT fS cG cV cT cS
            go_upto_region 44 with fail
            clear fV1 cV1
            generalize (w3a.setCell ⟨L.V, 0, none⟩ (.slice (some ⟨g3, 0, none⟩) ((b).length + ([92]).length) c3)) = w3 at hpm hbw ⊢
            obtain ⟨b3, hb3⟩ : ∃ x, b ++ [92] = x := ⟨_, rfl⟩
            have hl3 : b3.length ≤ b.length + 1 := by rw [← hb3, List.length_append]; have := HE.out.1; simp; try omega
            rw [hb3] at hpm
            have HB3 := Lib.hid hb3
            clear hb3
            have fG := free_of_one hpm.lG
            have fV := free_of_one hpm.lV
            have fT := free_of_one hpm.lT
            have fS := free_of_one hpm.lS
            have cG := cell_of_one hpm.lG
            have cV := cell_of_one hpm.lV
            have cT := cell_of_one hpm.lT
            have cS := cell_of_one hpm.lS
            have HPM := Lib.hid hpm
            have HBW := Lib.hid hbw
            clear hpm hbw
            go_wp2_with fail
            refine Met.intro ?_
            go_step
            exact ⟨a, b3, false, dq, true, bq, dl, false, g, tq, false, ga, ca, g3, c3, q, n + 1, sk, sub, bt, HPM.out.more (by omega), HBW.out, (by omega), (by omega), (by omega), (by omega), HXA.out, hg2, HSL.out, (by first | assumption | omega), (fun h => by rw [HRE.out, ← HB3.out]; exact prun_go (pstep_bss) (HR0.out h)), (fun h h' => by rw [HRE.out]; exact fun m => HD0.out h (by first | exact h' | trivial) (List.mem_cons_of_mem _ m)), rfl, ⟨rfl, rfl⟩, rfl, rfl, rfl, rfl, rfl, rfl, rfl, rfl, rfl, rfl, rfl, rfl, rfl, rfl, rfl, rfl, rfl, rfl, rfl, (congrArg (Value.int .i64) (show (n : Int) = ((n + 1 : Nat) : Int) - 1 by omega)), rfl⟩
          | false =>
            go_wp2_with fail
            refine Met.intro ?_
            go_step
            exact ⟨a, b, true, dq, false, bq, dl, false, g, tq, false, ga, ca, gb, cb, q, n + 1, sk, sub, bt, HPM.out.more (by omega), HBW.out, (by omega), (by omega), (by omega), (by omega), HXA.out, hg2, HSL.out, (by first | assumption | omega), (fun h => by rw [HRE.out]; exact prun_go (pstep_bs) (HR0.out h)), (fun h h' => by rw [HRE.out]; exact fun m => HD0.out h (by first | exact h' | trivial) (List.mem_cons_of_mem _ m)), rfl, ⟨rfl, rfl⟩, rfl, rfl, rfl, rfl, rfl, rfl, rfl, rfl, rfl, rfl, rfl, rfl, rfl, rfl, rfl, rfl, rfl, rfl, rfl, (congrArg (Value.int .i64) (show (n : Int) = ((n + 1 : Nat) : Int) - 1 by omega)), rfl⟩
        have e92 : ((R : Int) == 92) = false := by rw [beq_eq_false_iff_ne]; omega
        have H92 := Lib.hid h92
        clear h92
        have HX := Lib.hid (isExcluded_any P cx ad0 (R : Int) w1 cX)
        clear cX
        go_upto_region 49 with (go_at_call 39; (with_reducible refine HX.out.mono ?_); rintro e w9 ⟨rfl, rfl⟩; dsimp only)
        clear HX
        cases hspc : isSpN R with
        | true =>
          as_aux_lemma =>
            have HS := Lib.hid (isSpace_any R w1 true hspc)
            have HSP := Lib.hid hspc
            have hR256 : R < 256 := by unfold isSpN at hspc; simp at hspc; omega
            clear hspc
            have hcu : ∀ W : World, (convert 21 5 (.int .i32 (R : Int))).run Tryd.prog W = .ok (.int .u8 (R : Int)) W := fun W => conv_i32_u8 (by omega) W
            have HU := Lib.hid (show (Value.int .u8 (R : Int)) = .int .u8 ((UInt8.ofNat R).toNat : Int) by rw [UInt8.toNat_ofNat']; congr 1; omega)
            go_upto_region 50 with (go_at_call 40; (with_reducible refine HS.out.mono ?_); rintro e w9 ⟨rfl, rfl⟩; dsimp only)
            clear HS
            cases sq with
            | true =>
              cases bq with
              | true =>
                as_aux_lemma =>
                  go_upto_region 51 with fail
                  go_wp2_with (at_builtin; refine wpList_append_own_at _ rfl _ _ 56 rfl L.B 5 j0 (.int .u8 0) 1 1 Tryd.underlying56 HJ.out.1 HJ.out.2.1 HJ.out.2.2.1 HJ.out.2.2.2 rfl (by decide) _ _ _ rfl (HPM.out.oV.alloc _) ⟨w1.heap.size, 0, none⟩ 1 1 [.int .u8 (R : Int)] rfl rfl ?h13a ?h13b ?h13c ?h13d ?h13e ?_)
                  first | (case h13a => exact cell_one_new _ _ _) | skip
                  case h13b => first | rfl | (intro u hu; simp at hu; subst hu; rfl)
                  case h13c => unfold maxLen; (try simp only [List.length_append, List.length_cons, List.length_nil]); omega
                  case h13d => (try simp only [List.length_append, List.length_cons, List.length_nil]); omega
                  case h13e => have := HPM.out.lB; simp; omega
                  intro v1 w3a ho hg _ hat
                  obtain ⟨g3, c3, rfl, hV1, hpm⟩ := (HPM.out.alloc (.cells #[.int .u8 (R : Int)] 5)).app (l := [UInt8.ofNat R]) hg (by rw [HU.out] at ho; exact ho) (hat.imp (fun h => h) (fun h => by simpa using h))
                  have hbw := (((HBW.out.alloc HPM.out.lB (.cells #[.int .u8 (R : Int)] 5)).grown hg (by have := HPM.out.lB; simp; omega) (fun k hk => (HPM.out.oV.lt k hk).1))).setCell (p := ⟨L.V, 0, none⟩) L.hV (.slice (some ⟨g3, 0, none⟩) ((b).length + ([UInt8.ofNat R]).length) c3)
                  have fV1 := free_of_one hV1
                  have cV1 := cell_of_one hV1
                  clear hV1 ho hg hat
                  clear HPM HBW fG fV fT fS cG cV cT cS
                  go_upto_region 52 with fail
                  clear fV1 cV1
                  generalize (w3a.setCell ⟨L.V, 0, none⟩ (.slice (some ⟨g3, 0, none⟩) ((b).length + ([UInt8.ofNat R]).length) c3)) = w3 at hpm hbw ⊢
                  obtain ⟨b3, hb3⟩ : ∃ x, b ++ [UInt8.ofNat R] = x := ⟨_, rfl⟩
                  have hl3 : b3.length ≤ b.length + 1 := by rw [← hb3, List.length_append]; have := HE.out.1; simp; try omega
                  rw [hb3] at hpm
                  have HB3 := Lib.hid hb3
                  clear hb3
                  have fG := free_of_one hpm.lG
                  have fV := free_of_one hpm.lV
                  have fT := free_of_one hpm.lT
                  have fS := free_of_one hpm.lS
                  have cG := cell_of_one hpm.lG
                  have cV := cell_of_one hpm.lV
                  have cT := cell_of_one hpm.lT
                  have cS := cell_of_one hpm.lS
                  have HPM := Lib.hid hpm
                  have HBW := Lib.hid hbw
                  clear hpm hbw
                  go_upto_region 53 with fail
                  obtain ⟨nb5, xb5, hob5, hnb5⟩ := HPM.out.oB
                  have HOB := Lib.hid hob5
                  clear hob5
                  go_wp2_with (at_builtin; refine wpList_append_own_at _ rfl _ _ 56 rfl L.B 5 j0 (.int .u8 0) 1 1 Tryd.underlying56 HJ.out.1 HJ.out.2.1 HJ.out.2.2.1 HJ.out.2.2.2 rfl (by decide) _ _ _ rfl (HOB.out.alloc _) ⟨w3.heap.size, 0, none⟩ 1 1 [.int .u8 (R : Int)] rfl rfl ?h14a ?h14b ?h14c ?h14d ?h14e ?_)
                  first | (case h14a => exact cell_one_new _ _ _) | skip
                  case h14b => first | rfl | (intro u hu; simp at hu; subst hu; rfl)
                  case h14c => unfold maxLen; omega
                  case h14d => omega
                  case h14e => have := HPM.out.lB; simp; omega
                  intro v5 w5 ho hg _ hat
                  have hpm := (HPM.out.alloc (.cells #[.int .u8 (R : Int)] 5)).appB hg ho (hat.imp (fun h => h) (fun h => by simpa using h)) (m' := 5 * n + 1) (by omega)
                  have hbw := (HBW.out.alloc HPM.out.lB (.cells #[.int .u8 (R : Int)] 5)).grown hg (by have := HPM.out.lB; simp; omega) (fun k hk => (HOB.out.lt k hk).1)
                  clear ho hg hat HOB
                  clear HPM HBW fG fV fT fS cG cV cT cS
                  have fG := free_of_one hpm.lG
                  have fV := free_of_one hpm.lV
                  have fT := free_of_one hpm.lT
                  have fS := free_of_one hpm.lS
                  have cG := cell_of_one hpm.lG
                  have cV := cell_of_one hpm.lV
                  have cT := cell_of_one hpm.lT
                  have cS := cell_of_one hpm.lS
                  have HPM := Lib.hid hpm
                  have HBW := Lib.hid hbw
                  clear hpm hbw
                  go_wp2_with fail
                  refine Met.intro ?_
                  go_step
                  exact ⟨a, b3, false, dq, true, true, dl, false, g, tq, false, ga, ca, g3, c3, q, n + 1, sk, sub, v5, HPM.out.more (by omega), HBW.out, (by omega), (by omega), (by omega), (by omega), HXA.out, hg2, HSL.out, (by first | assumption | omega), (fun h => by rw [HRE.out, ← HB3.out]; exact prun_go (pstep_spq H92.out HSP.out (by simp)) (HR0.out h)), (fun h h' => by rw [HRE.out]; exact fun m => HD0.out h (by first | exact h' | trivial) (List.mem_cons_of_mem _ m)), rfl, ⟨rfl, rfl⟩, rfl, rfl, rfl, rfl, rfl, rfl, rfl, rfl, rfl, rfl, rfl, rfl, rfl, rfl, rfl, rfl, rfl, rfl, rfl, (congrArg (Value.int .i64) (show (n : Int) = ((n + 1 : Nat) : Int) - 1 by omega)), rfl⟩
              | false =>
                cases dl with
                | true =>
                  as_aux_lemma =>
                    go_upto_region 51 with fail
                    go_wp2_with (at_builtin; refine wpList_append_own_at _ rfl _ _ 56 rfl L.B 5 j0 (.int .u8 0) 1 1 Tryd.underlying56 HJ.out.1 HJ.out.2.1 HJ.out.2.2.1 HJ.out.2.2.2 rfl (by decide) _ _ _ rfl (HPM.out.oV.alloc _) ⟨w1.heap.size, 0, none⟩ 1 1 [.int .u8 (R : Int)] rfl rfl ?h15a ?h15b ?h15c ?h15d ?h15e ?_)
                    first | (case h15a => exact cell_one_new _ _ _) | skip
                    case h15b => first | rfl | (intro u hu; simp at hu; subst hu; rfl)
                    case h15c => unfold maxLen; (try simp only [List.length_append, List.length_cons, List.length_nil]); omega
                    case h15d => (try simp only [List.length_append, List.length_cons, List.length_nil]); omega
                    case h15e => have := HPM.out.lB; simp; omega
                    intro v1 w3a ho hg _ hat
                    obtain ⟨g3, c3, rfl, hV1, hpm⟩ := (HPM.out.alloc (.cells #[.int .u8 (R : Int)] 5)).app (l := [UInt8.ofNat R]) hg (by rw [HU.out] at ho; exact ho) (hat.imp (fun h => h) (fun h => by simpa using h))
                    have hbw := (((HBW.out.alloc HPM.out.lB (.cells #[.int .u8 (R : Int)] 5)).grown hg (by have := HPM.out.lB; simp; omega) (fun k hk => (HPM.out.oV.lt k hk).1))).setCell (p := ⟨L.V, 0, none⟩) L.hV (.slice (some ⟨g3, 0, none⟩) ((b).length + ([UInt8.ofNat R]).length) c3)
                    have fV1 := free_of_one hV1
                    have cV1 := cell_of_one hV1
                    clear hV1 ho hg hat
                    clear HPM HBW fG fV fT fS cG cV cT cS
                    go_upto_region 52 with fail
                    clear fV1 cV1
                    generalize (w3a.setCell ⟨L.V, 0, none⟩ (.slice (some ⟨g3, 0, none⟩) ((b).length + ([UInt8.ofNat R]).length) c3)) = w3 at hpm hbw ⊢
                    obtain ⟨b3, hb3⟩ : ∃ x, b ++ [UInt8.ofNat R] = x := ⟨_, rfl⟩
                    have hl3 : b3.length ≤ b.length + 1 := by rw [← hb3, List.length_append]; have := HE.out.1; simp; try omega
                    rw [hb3] at hpm
                    have HB3 := Lib.hid hb3
                    clear hb3
                    have fG := free_of_one hpm.lG
                    have fV := free_of_one hpm.lV
                    have fT := free_of_one hpm.lT
                    have fS := free_of_one hpm.lS
                    have cG := cell_of_one hpm.lG
                    have cV := cell_of_one hpm.lV
                    have cT := cell_of_one hpm.lT
                    have cS := cell_of_one hpm.lS
                    have HPM := Lib.hid hpm
                    have HBW := Lib.hid hbw
                    clear hpm hbw
                    go_upto_region 53 with fail
                    obtain ⟨nb5, xb5, hob5, hnb5⟩ := HPM.out.oB
                    have HOB := Lib.hid hob5
                    clear hob5
                    go_wp2_with (at_builtin; refine wpList_append_own_at _ rfl _ _ 56 rfl L.B 5 j0 (.int .u8 0) 1 1 Tryd.underlying56 HJ.out.1 HJ.out.2.1 HJ.out.2.2.1 HJ.out.2.2.2 rfl (by decide) _ _ _ rfl (HOB.out.alloc _) ⟨w3.heap.size, 0, none⟩ 1 1 [.int .u8 (R : Int)] rfl rfl ?h16a ?h16b ?h16c ?h16d ?h16e ?_)
                    first | (case h16a => exact cell_one_new _ _ _) | skip
                    case h16b => first | rfl | (intro u hu; simp at hu; subst hu; rfl)
                    case h16c => unfold maxLen; omega
                    case h16d => omega
                    case h16e => have := HPM.out.lB; simp; omega
                    intro v5 w5 ho hg _ hat
                    have hpm := (HPM.out.alloc (.cells #[.int .u8 (R : Int)] 5)).appB hg ho (hat.imp (fun h => h) (fun h => by simpa using h)) (m' := 5 * n + 1) (by omega)
                    have hbw := (HBW.out.alloc HPM.out.lB (.cells #[.int .u8 (R : Int)] 5)).grown hg (by have := HPM.out.lB; simp; omega) (fun k hk => (HOB.out.lt k hk).1)
                    clear ho hg hat HOB
                    clear HPM HBW fG fV fT fS cG cV cT cS
                    have fG := free_of_one hpm.lG
                    have fV := free_of_one hpm.lV
                    have fT := free_of_one hpm.lT
                    have fS := free_of_one hpm.lS
                    have cG := cell_of_one hpm.lG
                    have cV := cell_of_one hpm.lV
                    have cT := cell_of_one hpm.lT
                    have cS := cell_of_one hpm.lS
                    have HPM := Lib.hid hpm
                    have HBW := Lib.hid hbw
                    clear hpm hbw
                    go_wp2_with fail
                    refine Met.intro ?_
                    go_step
                    exact ⟨a, b3, false, dq, true, false, true, false, g, tq, false, ga, ca, g3, c3, q, n + 1, sk, sub, v5, HPM.out.more (by omega), HBW.out, (by omega), (by omega), (by omega), (by omega), HXA.out, hg2, HSL.out, (by first | assumption | omega), (fun h => by rw [HRE.out, ← HB3.out]; exact prun_go (pstep_spq H92.out HSP.out (by simp)) (HR0.out h)), (fun h h' => by rw [HRE.out]; exact fun m => HD0.out h (by first | exact h' | trivial) (List.mem_cons_of_mem _ m)), rfl, ⟨rfl, rfl⟩, rfl, rfl, rfl, rfl, rfl, rfl, rfl, rfl, rfl, rfl, rfl, rfl, rfl, rfl, rfl, rfl, rfl, rfl, rfl, (congrArg (Value.int .i64) (show (n : Int) = ((n + 1 : Nat) : Int) - 1 by omega)), rfl⟩
                | false =>
                  as_aux_lemma =>
                    go_upto_region 51 with fail
                    go_wp2_with (at_builtin; refine wpList_append_own_at _ rfl _ _ 56 rfl L.B 5 j0 (.int .u8 0) 1 1 Tryd.underlying56 HJ.out.1 HJ.out.2.1 HJ.out.2.2.1 HJ.out.2.2.2 rfl (by decide) _ _ _ rfl (HPM.out.oV.alloc _) ⟨w1.heap.size, 0, none⟩ 1 1 [.int .u8 (R : Int)] rfl rfl ?h17a ?h17b ?h17c ?h17d ?h17e ?_)
                    first | (case h17a => exact cell_one_new _ _ _) | skip
                    case h17b => first | rfl | (intro u hu; simp at hu; subst hu; rfl)
                    case h17c => unfold maxLen; (try simp only [List.length_append, List.length_cons, List.length_nil]); omega
                    case h17d => (try simp only [List.length_append, List.length_cons, List.length_nil]); omega
                    case h17e => have := HPM.out.lB; simp; omega
                    intro v1 w3a ho hg _ hat
                    obtain ⟨g3, c3, rfl, hV1, hpm⟩ := (HPM.out.alloc (.cells #[.int .u8 (R : Int)] 5)).app (l := [UInt8.ofNat R]) hg (by rw [HU.out] at ho; exact ho) (hat.imp (fun h => h) (fun h => by simpa using h))
                    have hbw := (((HBW.out.alloc HPM.out.lB (.cells #[.int .u8 (R : Int)] 5)).grown hg (by have := HPM.out.lB; simp; omega) (fun k hk => (HPM.out.oV.lt k hk).1))).setCell (p := ⟨L.V, 0, none⟩) L.hV (.slice (some ⟨g3, 0, none⟩) ((b).length + ([UInt8.ofNat R]).length) c3)
                    have fV1 := free_of_one hV1
                    have cV1 := cell_of_one hV1
                    clear hV1 ho hg hat
                    clear HPM HBW fG fV fT fS cG cV cT cS
                    go_upto_region 52 with fail
                    clear fV1 cV1
                    generalize (w3a.setCell ⟨L.V, 0, none⟩ (.slice (some ⟨g3, 0, none⟩) ((b).length + ([UInt8.ofNat R]).length) c3)) = w3 at hpm hbw ⊢
                    obtain ⟨b3, hb3⟩ : ∃ x, b ++ [UInt8.ofNat R] = x := ⟨_, rfl⟩
                    have hl3 : b3.length ≤ b.length + 1 := by rw [← hb3, List.length_append]; have := HE.out.1; simp; try omega
                    rw [hb3] at hpm
                    have HB3 := Lib.hid hb3
                    clear hb3
                    have fG := free_of_one hpm.lG
                    have fV := free_of_one hpm.lV
                    have fT := free_of_one hpm.lT
                    have fS := free_of_one hpm.lS
                    have cG := cell_of_one hpm.lG
                    have cV := cell_of_one hpm.lV
                    have cT := cell_of_one hpm.lT
                    have cS := cell_of_one hpm.lS
                    have HPM := Lib.hid hpm
                    have HBW := Lib.hid hbw
                    clear hpm hbw
                    go_wp2_with fail
                    refine Met.intro ?_
                    go_step
                    exact ⟨a, b3, false, dq, true, false, false, false, g, tq, false, ga, ca, g3, c3, q, n + 1, sk, sub, bt, HPM.out.more (by omega), HBW.out, (by omega), (by omega), (by omega), (by omega), HXA.out, hg2, HSL.out, (by first | assumption | omega), (fun h => by rw [HRE.out, ← HB3.out]; exact prun_go (pstep_spq H92.out HSP.out (by simp)) (HR0.out h)), (fun h h' => by rw [HRE.out]; exact fun m => HD0.out h (by first | exact h' | trivial) (List.mem_cons_of_mem _ m)), rfl, ⟨rfl, rfl⟩, rfl, rfl, rfl, rfl, rfl, rfl, rfl, rfl, rfl, rfl, rfl, rfl, rfl, rfl, rfl, rfl, rfl, rfl, rfl, (congrArg (Value.int .i64) (show (n : Int) = ((n + 1 : Nat) : Int) - 1 by omega)), rfl⟩
            | false =>
              cases dq with
              | true =>
                cases bq with
                | true =>
                  as_aux_lemma =>
                    go_upto_region 51 with fail
                    go_wp2_with (at_builtin; refine wpList_append_own_at _ rfl _ _ 56 rfl L.B 5 j0 (.int .u8 0) 1 1 Tryd.underlying56 HJ.out.1 HJ.out.2.1 HJ.out.2.2.1 HJ.out.2.2.2 rfl (by decide) _ _ _ rfl (HPM.out.oV.alloc _) ⟨w1.heap.size, 0, none⟩ 1 1 [.int .u8 (R : Int)] rfl rfl ?h18a ?h18b ?h18c ?h18d ?h18e ?_)
                    first | (case h18a => exact cell_one_new _ _ _) | skip
                    case h18b => first | rfl | (intro u hu; simp at hu; subst hu; rfl)
                    case h18c => unfold maxLen; (try simp only [List.length_append, List.length_cons, List.length_nil]); omega
                    case h18d => (try simp only [List.length_append, List.length_cons, List.length_nil]); omega
                    case h18e => have := HPM.out.lB; simp; omega
                    intro v1 w3a ho hg _ hat
                    obtain ⟨g3, c3, rfl, hV1, hpm⟩ := (HPM.out.alloc (.cells #[.int .u8 (R : Int)] 5)).app (l := [UInt8.ofNat R]) hg (by rw [HU.out] at ho; exact ho) (hat.imp (fun h => h) (fun h => by simpa using h))
                    have hbw := (((HBW.out.alloc HPM.out.lB (.cells #[.int .u8 (R : Int)] 5)).grown hg (by have := HPM.out.lB; simp; omega) (fun k hk => (HPM.out.oV.lt k hk).1))).setCell (p := ⟨L.V, 0, none⟩) L.hV (.slice (some ⟨g3, 0, none⟩) ((b).length + ([UInt8.ofNat R]).length) c3)
                    have fV1 := free_of_one hV1
                    have cV1 := cell_of_one hV1
                    clear hV1 ho hg hat
                    clear HPM HBW fG fV fT fS cG cV cT cS
                    go_upto_region 52 with fail
                    clear fV1 cV1
                    generalize (w3a.setCell ⟨L.V, 0, none⟩ (.slice (some ⟨g3, 0, none⟩) ((b).length + ([UInt8.ofNat R]).length) c3)) = w3 at hpm hbw ⊢
                    obtain ⟨b3, hb3⟩ : ∃ x, b ++ [UInt8.ofNat R] = x := ⟨_, rfl⟩
                    have hl3 : b3.length ≤ b.length + 1 := by rw [← hb3, List.length_append]; have := HE.out.1; simp; try omega
                    rw [hb3] at hpm
                    have HB3 := Lib.hid hb3
                    clear hb3
                    have fG := free_of_one hpm.lG
                    have fV := free_of_one hpm.lV
                    have fT := free_of_one hpm.lT
                    have fS := free_of_one hpm.lS
                    have cG := cell_of_one hpm.lG
                    have cV := cell_of_one hpm.lV
                    have cT := cell_of_one hpm.lT
                    have cS := cell_of_one hpm.lS
                    have HPM := Lib.hid hpm
                    have HBW := Lib.hid hbw
                    clear hpm hbw
                    go_upto_region 53 with fail
                    obtain ⟨nb5, xb5, hob5, hnb5⟩ := HPM.out.oB
                    have HOB := Lib.hid hob5
                    clear hob5
                    go_wp2_with (at_builtin; refine wpList_append_own_at _ rfl _ _ 56 rfl L.B 5 j0 (.int .u8 0) 1 1 Tryd.underlying56 HJ.out.1 HJ.out.2.1 HJ.out.2.2.1 HJ.out.2.2.2 rfl (by decide) _ _ _ rfl (HOB.out.alloc _) ⟨w3.heap.size, 0, none⟩ 1 1 [.int .u8 (R : Int)] rfl rfl ?h19a ?h19b ?h19c ?h19d ?h19e ?_)
                    first | (case h19a => exact cell_one_new _ _ _) | skip
                    case h19b => first | rfl | (intro u hu; simp at hu; subst hu; rfl)
                    case h19c => unfold maxLen; omega
                    case h19d => omega
                    case h19e => have := HPM.out.lB; simp; omega
                    intro v5 w5 ho hg _ hat
                    have hpm := (HPM.out.alloc (.cells #[.int .u8 (R : Int)] 5)).appB hg ho (hat.imp (fun h => h) (fun h => by simpa using h)) (m' := 5 * n + 1) (by omega)
                    have hbw := (HBW.out.alloc HPM.out.lB (.cells #[.int .u8 (R : Int)] 5)).grown hg (by have := HPM.out.lB; simp; omega) (fun k hk => (HOB.out.lt k hk).1)
                    clear ho hg hat HOB
                    clear HPM HBW fG fV fT fS cG cV cT cS
                    have fG := free_of_one hpm.lG
                    have fV := free_of_one hpm.lV
                    have fT := free_of_one hpm.lT
                    have fS := free_of_one hpm.lS
                    have cG := cell_of_one hpm.lG
                    have cV := cell_of_one hpm.lV
                    have cT := cell_of_one hpm.lT
                    have cS := cell_of_one hpm.lS
                    have HPM := Lib.hid hpm
                    have HBW := Lib.hid hbw
                    clear hpm hbw
                    go_wp2_with fail
                    refine Met.intro ?_
                    go_step
                    exact ⟨a, b3, false, true, false, true, dl, false, g, tq, false, ga, ca, g3, c3, q, n + 1, sk, sub, v5, HPM.out.more (by omega), HBW.out, (by omega), (by omega), (by omega), (by omega), HXA.out, hg2, HSL.out, (by first | assumption | omega), (fun h => by rw [HRE.out, ← HB3.out]; exact prun_go (pstep_spq H92.out HSP.out (by simp)) (HR0.out h)), (fun h h' => by rw [HRE.out]; exact fun m => HD0.out h (by first | exact h' | trivial) (List.mem_cons_of_mem _ m)), rfl, ⟨rfl, rfl⟩, rfl, rfl, rfl, rfl, rfl, rfl, rfl, rfl, rfl, rfl, rfl, rfl, rfl, rfl, rfl, rfl, rfl, rfl, rfl, (congrArg (Value.int .i64) (show (n : Int) = ((n + 1 : Nat) : Int) - 1 by omega)), rfl⟩
                | false =>
                  cases dl with
                  | true =>
                    as_aux_lemma =>
                      go_upto_region 51 with fail
                      go_wp2_with (at_builtin; refine wpList_append_own_at _ rfl _ _ 56 rfl L.B 5 j0 (.int .u8 0) 1 1 Tryd.underlying56 HJ.out.1 HJ.out.2.1 HJ.out.2.2.1 HJ.out.2.2.2 rfl (by decide) _ _ _ rfl (HPM.out.oV.alloc _) ⟨w1.heap.size, 0, none⟩ 1 1 [.int .u8 (R : Int)] rfl rfl ?h20a ?h20b ?h20c ?h20d ?h20e ?_)
                      first | (case h20a => exact cell_one_new _ _ _) | skip
                      case h20b => first | rfl | (intro u hu; simp at hu; subst hu; rfl)
                      case h20c => unfold maxLen; (try simp only [List.length_append, List.length_cons, List.length_nil]); omega
                      case h20d => (try simp only [List.length_append, List.length_cons, List.length_nil]); omega
                      case h20e => have := HPM.out.lB; simp; omega
                      intro v1 w3a ho hg _ hat
                      obtain ⟨g3, c3, rfl, hV1, hpm⟩ := (HPM.out.alloc (.cells #[.int .u8 (R : Int)] 5)).app (l := [UInt8.ofNat R]) hg (by rw [HU.out] at ho; exact ho) (hat.imp (fun h => h) (fun h => by simpa using h))
                      have hbw := (((HBW.out.alloc HPM.out.lB (.cells #[.int .u8 (R : Int)] 5)).grown hg (by have := HPM.out.lB; simp; omega) (fun k hk => (HPM.out.oV.lt k hk).1))).setCell (p := ⟨L.V, 0, none⟩) L.hV (.slice (some ⟨g3, 0, none⟩) ((b).length + ([UInt8.ofNat R]).length) c3)
                      have fV1 := free_of_one hV1
                      have cV1 := cell_of_one hV1
                      clear hV1 ho hg hat
                      clear HPM HBW fG fV fT fS cG cV cT cS
                      go_upto_region 52 with fail
                      clear fV1 cV1
                      generalize (w3a.setCell ⟨L.V, 0, none⟩ (.slice (some ⟨g3, 0, none⟩) ((b).length + ([UInt8.ofNat R]).length) c3)) = w3 at hpm hbw ⊢
                      obtain ⟨b3, hb3⟩ : ∃ x, b ++ [UInt8.ofNat R] = x := ⟨_, rfl⟩
                      have hl3 : b3.length ≤ b.length + 1 := by rw [← hb3, List.length_append]; have := HE.out.1; simp; try omega
                      rw [hb3] at hpm
                      have HB3 := Lib.hid hb3
                      clear hb3
                      have fG := free_of_one hpm.lG
                      have fV := free_of_one hpm.lV
                      have fT := free_of_one hpm.lT
                      have fS := free_of_one hpm.lS
                      have cG := cell_of_one hpm.lG
                      have cV := cell_of_one hpm.lV
                      have cT := cell_of_one hpm.lT
                      have cS := cell_of_one hpm.lS
                      have HPM := Lib.hid hpm
                      have HBW := Lib.hid hbw
                      clear hpm hbw
                      go_upto_region 53 with fail
                      obtain ⟨nb5, xb5, hob5, hnb5⟩ := HPM.out.oB
                      have HOB := Lib.hid hob5
                      clear hob5
                      go_wp2_with (at_builtin; refine wpList_append_own_at _ rfl _ _ 56 rfl L.B 5 j0 (.int .u8 0) 1 1 Tryd.underlying56 HJ.out.1 HJ.out.2.1 HJ.out.2.2.1 HJ.out.2.2.2 rfl (by decide) _ _ _ rfl (HOB.out.alloc _) ⟨w3.heap.size, 0, none⟩ 1 1 [.int .u8 (R : Int)] rfl rfl ?h21a ?h21b ?h21c ?h21d ?h21e ?_)
                      first | (case h21a => exact cell_one_new _ _ _) | skip
                      case h21b => first | rfl | (intro u hu; simp at hu; subst hu; rfl)
                      case h21c => unfold maxLen; omega
                      case h21d => omega
                      case h21e => have := HPM.out.lB; simp; omega
                      intro v5 w5 ho hg _ hat
                      have hpm := (HPM.out.alloc (.cells #[.int .u8 (R : Int)] 5)).appB hg ho (hat.imp (fun h => h) (fun h => by simpa using h)) (m' := 5 * n + 1) (by omega)
                      have hbw := (HBW.out.alloc HPM.out.lB (.cells #[.int .u8 (R : Int)] 5)).grown hg (by have := HPM.out.lB; simp; omega) (fun k hk => (HOB.out.lt k hk).1)
                      clear ho hg hat HOB
                      clear HPM HBW fG fV fT fS cG cV cT cS
                      have fG := free_of_one hpm.lG
                      have fV := free_of_one hpm.lV
                      have fT := free_of_one hpm.lT
                      have fS := free_of_one hpm.lS
                      have cG := cell_of_one hpm.lG
                      have cV := cell_of_one hpm.lV
                      have cT := cell_of_one hpm.lT
                      have cS := cell_of_one hpm.lS
                      have HPM := Lib.hid hpm
                      have HBW := Lib.hid hbw
                      clear hpm hbw
                      go_wp2_with fail
                      refine Met.intro ?_
                      go_step
                      exact ⟨a, b3, false, true, false, false, true, false, g, tq, false, ga, ca, g3, c3, q, n + 1, sk, sub, v5, HPM.out.more (by omega), HBW.out, (by omega), (by omega), (by omega), (by omega), HXA.out, hg2, HSL.out, (by first | assumption | omega), (fun h => by rw [HRE.out, ← HB3.out]; exact prun_go (pstep_spq H92.out HSP.out (by simp)) (HR0.out h)), (fun h h' => by rw [HRE.out]; exact fun m => HD0.out h (by first | exact h' | trivial) (List.mem_cons_of_mem _ m)), rfl, ⟨rfl, rfl⟩, rfl, rfl, rfl, rfl, rfl, rfl, rfl, rfl, rfl, rfl, rfl, rfl, rfl, rfl, rfl, rfl, rfl, rfl, rfl, (congrArg (Value.int .i64) (show (n : Int) = ((n + 1 : Nat) : Int) - 1 by omega)), rfl⟩
                  | false =>
                    as_aux_lemma =>
                      go_upto_region 51 with fail
                      go_wp2_with (at_builtin; refine wpList_append_own_at _ rfl _ _ 56 rfl L.B 5 j0 (.int .u8 0) 1 1 Tryd.underlying56 HJ.out.1 HJ.out.2.1 HJ.out.2.2.1 HJ.out.2.2.2 rfl (by decide) _ _ _ rfl (HPM.out.oV.alloc _) ⟨w1.heap.size, 0, none⟩ 1 1 [.int .u8 (R : Int)] rfl rfl ?h22a ?h22b ?h22c ?h22d ?h22e ?_)
                      first | (case h22a => exact cell_one_new _ _ _) | skip
                      case h22b => first | rfl | (intro u hu; simp at hu; subst hu; rfl)
                      case h22c => unfold maxLen; (try simp only [List.length_append, List.length_cons, List.length_nil]); omega
                      case h22d => (try simp only [List.length_append, List.length_cons, List.length_nil]); omega
                      case h22e => have := HPM.out.lB; simp; omega
                      intro v1 w3a ho hg _ hat
                      obtain ⟨g3, c3, rfl, hV1, hpm⟩ := (HPM.out.alloc (.cells #[.int .u8 (R : Int)] 5)).app (l := [UInt8.ofNat R]) hg (by rw [HU.out] at ho; exact ho) (hat.imp (fun h => h) (fun h => by simpa using h))
                      have hbw := (((HBW.out.alloc HPM.out.lB (.cells #[.int .u8 (R : Int)] 5)).grown hg (by have := HPM.out.lB; simp; omega) (fun k hk => (HPM.out.oV.lt k hk).1))).setCell (p := ⟨L.V, 0, none⟩) L.hV (.slice (some ⟨g3, 0, none⟩) ((b).length + ([UInt8.ofNat R]).length) c3)
                      have fV1 := free_of_one hV1
                      have cV1 := cell_of_one hV1
                      clear hV1 ho hg hat
                      clear HPM HBW fG fV fT fS cG cV cT cS
                      go_upto_region 52 with fail
                      clear fV1 cV1
                      generalize (w3a.setCell ⟨L.V, 0, none⟩ (.slice (some ⟨g3, 0, none⟩) ((b).length + ([UInt8.ofNat R]).length) c3)) = w3 at hpm hbw ⊢
                      obtain ⟨b3, hb3⟩ : ∃ x, b ++ [UInt8.ofNat R] = x := ⟨_, rfl⟩
                      have hl3 : b3.length ≤ b.length + 1 := by rw [← hb3, List.length_append]; have := HE.out.1; simp; try omega
                      rw [hb3] at hpm
                      have HB3 := Lib.hid hb3
                      clear hb3
                      have fG := free_of_one hpm.lG
                      have fV := free_of_one hpm.lV
                      have fT := free_of_one hpm.lT
                      have fS := free_of_one hpm.lS
                      have cG := cell_of_one hpm.lG
                      have cV := cell_of_one hpm.lV
                      have cT := cell_of_one hpm.lT
                      have cS := cell_of_one hpm.lS
                      have HPM := Lib.hid hpm
                      have HBW := Lib.hid hbw
                      clear hpm hbw
                      go_wp2_with fail
                      refine Met.intro ?_
                      go_step
                      exact ⟨a, b3, false, true, false, false, false, false, g, tq, false, ga, ca, g3, c3, q, n + 1, sk, sub, bt, HPM.out.more (by omega), HBW.out, (by omega), (by omega), (by omega), (by omega), HXA.out, hg2, HSL.out, (by first | assumption | omega), (fun h => by rw [HRE.out, ← HB3.out]; exact prun_go (pstep_spq H92.out HSP.out (by simp)) (HR0.out h)), (fun h h' => by rw [HRE.out]; exact fun m => HD0.out h (by first | exact h' | trivial) (List.mem_cons_of_mem _ m)), rfl, ⟨rfl, rfl⟩, rfl, rfl, rfl, rfl, rfl, rfl, rfl, rfl, rfl, rfl, rfl, rfl, rfl, rfl, rfl, rfl, rfl, rfl, rfl, (congrArg (Value.int .i64) (show (n : Int) = ((n + 1 : Nat) : Int) - 1 by omega)), rfl⟩
              | false =>
                cases bq with
                | true =>
                  as_aux_lemma =>
                    go_upto_region 51 with fail
                    go_wp2_with (at_builtin; refine wpList_append_own_at _ rfl _ _ 56 rfl L.B 5 j0 (.int .u8 0) 1 1 Tryd.underlying56 HJ.out.1 HJ.out.2.1 HJ.out.2.2.1 HJ.out.2.2.2 rfl (by decide) _ _ _ rfl (HPM.out.oV.alloc _) ⟨w1.heap.size, 0, none⟩ 1 1 [.int .u8 (R : Int)] rfl rfl ?h23a ?h23b ?h23c ?h23d ?h23e ?_)
                    first | (case h23a => exact cell_one_new _ _ _) | skip
                    case h23b => first | rfl | (intro u hu; simp at hu; subst hu; rfl)
                    case h23c => unfold maxLen; (try simp only [List.length_append, List.length_cons, List.length_nil]); omega
                    case h23d => (try simp only [List.length_append, List.length_cons, List.length_nil]); omega
                    case h23e => have := HPM.out.lB; simp; omega
                    intro v1 w3a ho hg _ hat
                    obtain ⟨g3, c3, rfl, hV1, hpm⟩ := (HPM.out.alloc (.cells #[.int .u8 (R : Int)] 5)).app (l := [UInt8.ofNat R]) hg (by rw [HU.out] at ho; exact ho) (hat.imp (fun h => h) (fun h => by simpa using h))
                    have hbw := (((HBW.out.alloc HPM.out.lB (.cells #[.int .u8 (R : Int)] 5)).grown hg (by have := HPM.out.lB; simp; omega) (fun k hk => (HPM.out.oV.lt k hk).1))).setCell (p := ⟨L.V, 0, none⟩) L.hV (.slice (some ⟨g3, 0, none⟩) ((b).length + ([UInt8.ofNat R]).length) c3)
                    have fV1 := free_of_one hV1
                    have cV1 := cell_of_one hV1
                    clear hV1 ho hg hat
                    clear HPM HBW fG fV fT fS cG cV cT cS
                    go_upto_region 52 with fail
                    clear fV1 cV1
                    generalize (w3a.setCell ⟨L.V, 0, none⟩ (.slice (some ⟨g3, 0, none⟩) ((b).length + ([UInt8.ofNat R]).length) c3)) = w3 at hpm hbw ⊢
                    obtain ⟨b3, hb3⟩ : ∃ x, b ++ [UInt8.ofNat R] = x := ⟨_, rfl⟩
                    have hl3 : b3.length ≤ b.length + 1 := by rw [← hb3, List.length_append]; have := HE.out.1; simp; try omega
                    rw [hb3] at hpm
                    have HB3 := Lib.hid hb3
                    clear hb3
                    have fG := free_of_one hpm.lG
                    have fV := free_of_one hpm.lV
                    have fT := free_of_one hpm.lT
                    have fS := free_of_one hpm.lS
                    have cG := cell_of_one hpm.lG
                    have cV := cell_of_one hpm.lV
                    have cT := cell_of_one hpm.lT
                    have cS := cell_of_one hpm.lS
                    have HPM := Lib.hid hpm
                    have HBW := Lib.hid hbw
                    clear hpm hbw
                    go_upto_region 53 with fail
                    obtain ⟨nb5, xb5, hob5, hnb5⟩ := HPM.out.oB
                    have HOB := Lib.hid hob5
                    clear hob5
                    go_wp2_with (at_builtin; refine wpList_append_own_at _ rfl _ _ 56 rfl L.B 5 j0 (.int .u8 0) 1 1 Tryd.underlying56 HJ.out.1 HJ.out.2.1 HJ.out.2.2.1 HJ.out.2.2.2 rfl (by decide) _ _ _ rfl (HOB.out.alloc _) ⟨w3.heap.size, 0, none⟩ 1 1 [.int .u8 (R : Int)] rfl rfl ?h24a ?h24b ?h24c ?h24d ?h24e ?_)
                    first | (case h24a => exact cell_one_new _ _ _) | skip
                    case h24b => first | rfl | (intro u hu; simp at hu; subst hu; rfl)
                    case h24c => unfold maxLen; omega
                    case h24d => omega
                    case h24e => have := HPM.out.lB; simp; omega
                    intro v5 w5 ho hg _ hat
                    have hpm := (HPM.out.alloc (.cells #[.int .u8 (R : Int)] 5)).appB hg ho (hat.imp (fun h => h) (fun h => by simpa using h)) (m' := 5 * n + 1) (by omega)
                    have hbw := (HBW.out.alloc HPM.out.lB (.cells #[.int .u8 (R : Int)] 5)).grown hg (by have := HPM.out.lB; simp; omega) (fun k hk => (HOB.out.lt k hk).1)
                    clear ho hg hat HOB
                    clear HPM HBW fG fV fT fS cG cV cT cS
                    have fG := free_of_one hpm.lG
                    have fV := free_of_one hpm.lV
                    have fT := free_of_one hpm.lT
                    have fS := free_of_one hpm.lS
                    have cG := cell_of_one hpm.lG
                    have cV := cell_of_one hpm.lV
                    have cT := cell_of_one hpm.lT
                    have cS := cell_of_one hpm.lS
                    have HPM := Lib.hid hpm
                    have HBW := Lib.hid hbw
                    clear hpm hbw
                    go_wp2_with fail
                    refine Met.intro ?_
                    go_step
                    exact ⟨a, b3, false, false, false, true, dl, false, g, tq, false, ga, ca, g3, c3, q, n + 1, sk, sub, v5, HPM.out.more (by omega), HBW.out, (by omega), (by omega), (by omega), (by omega), HXA.out, hg2, HSL.out, (by first | assumption | omega), (fun h => by rw [HRE.out, ← HB3.out]; exact prun_go (pstep_spq H92.out HSP.out (by simp)) (HR0.out h)), (fun h h' => by rw [HRE.out]; exact fun m => HD0.out h (by first | exact h' | trivial) (List.mem_cons_of_mem _ m)), rfl, ⟨rfl, rfl⟩, rfl, rfl, rfl, rfl, rfl, rfl, rfl, rfl, rfl, rfl, rfl, rfl, rfl, rfl, rfl, rfl, rfl, rfl, rfl, (congrArg (Value.int .i64) (show (n : Int) = ((n + 1 : Nat) : Int) - 1 by omega)), rfl⟩
                | false =>
                  cases dl with
                  | true =>
                    as_aux_lemma =>
                      go_upto_region 51 with fail
                      go_wp2_with (at_builtin; refine wpList_append_own_at _ rfl _ _ 56 rfl L.B 5 j0 (.int .u8 0) 1 1 Tryd.underlying56 HJ.out.1 HJ.out.2.1 HJ.out.2.2.1 HJ.out.2.2.2 rfl (by decide) _ _ _ rfl (HPM.out.oV.alloc _) ⟨w1.heap.size, 0, none⟩ 1 1 [.int .u8 (R : Int)] rfl rfl ?h25a ?h25b ?h25c ?h25d ?h25e ?_)
                      first | (case h25a => exact cell_one_new _ _ _) | skip
                      case h25b => first | rfl | (intro u hu; simp at hu; subst hu; rfl)
                      case h25c => unfold maxLen; (try simp only [List.length_append, List.length_cons, List.length_nil]); omega
                      case h25d => (try simp only [List.length_append, List.length_cons, List.length_nil]); omega
                      case h25e => have := HPM.out.lB; simp; omega
                      intro v1 w3a ho hg _ hat
                      obtain ⟨g3, c3, rfl, hV1, hpm⟩ := (HPM.out.alloc (.cells #[.int .u8 (R : Int)] 5)).app (l := [UInt8.ofNat R]) hg (by rw [HU.out] at ho; exact ho) (hat.imp (fun h => h) (fun h => by simpa using h))
                      have hbw := (((HBW.out.alloc HPM.out.lB (.cells #[.int .u8 (R : Int)] 5)).grown hg (by have := HPM.out.lB; simp; omega) (fun k hk => (HPM.out.oV.lt k hk).1))).setCell (p := ⟨L.V, 0, none⟩) L.hV (.slice (some ⟨g3, 0, none⟩) ((b).length + ([UInt8.ofNat R]).length) c3)
                      have fV1 := free_of_one hV1
                      have cV1 := cell_of_one hV1
                      clear hV1 ho hg hat
                      clear HPM HBW fG fV fT fS cG cV cT cS
                      go_upto_region 52 with fail
                      clear fV1 cV1
                      generalize (w3a.setCell ⟨L.V, 0, none⟩ (.slice (some ⟨g3, 0, none⟩) ((b).length + ([UInt8.ofNat R]).length) c3)) = w3 at hpm hbw ⊢
                      obtain ⟨b3, hb3⟩ : ∃ x, b ++ [UInt8.ofNat R] = x := ⟨_, rfl⟩
                      have hl3 : b3.length ≤ b.length + 1 := by rw [← hb3, List.length_append]; have := HE.out.1; simp; try omega
                      rw [hb3] at hpm
                      have HB3 := Lib.hid hb3
                      clear hb3
                      have fG := free_of_one hpm.lG
                      have fV := free_of_one hpm.lV
                      have fT := free_of_one hpm.lT
                      have fS := free_of_one hpm.lS
                      have cG := cell_of_one hpm.lG
                      have cV := cell_of_one hpm.lV
                      have cT := cell_of_one hpm.lT
                      have cS := cell_of_one hpm.lS
                      have HPM := Lib.hid hpm
                      have HBW := Lib.hid hbw
                      clear hpm hbw
                      go_upto_region 53 with fail
                      obtain ⟨nb5, xb5, hob5, hnb5⟩ := HPM.out.oB
                      have HOB := Lib.hid hob5
                      clear hob5
                      go_wp2_with (at_builtin; refine wpList_append_own_at _ rfl _ _ 56 rfl L.B 5 j0 (.int .u8 0) 1 1 Tryd.underlying56 HJ.out.1 HJ.out.2.1 HJ.out.2.2.1 HJ.out.2.2.2 rfl (by decide) _ _ _ rfl (HOB.out.alloc _) ⟨w3.heap.size, 0, none⟩ 1 1 [.int .u8 (R : Int)] rfl rfl ?h26a ?h26b ?h26c ?h26d ?h26e ?_)
                      first | (case h26a => exact cell_one_new _ _ _) | skip
                      case h26b => first | rfl | (intro u hu; simp at hu; subst hu; rfl)
                      case h26c => unfold maxLen; omega
                      case h26d => omega
                      case h26e => have := HPM.out.lB; simp; omega
                      intro v5 w5 ho hg _ hat
                      have hpm := (HPM.out.alloc (.cells #[.int .u8 (R : Int)] 5)).appB hg ho (hat.imp (fun h => h) (fun h => by simpa using h)) (m' := 5 * n + 1) (by omega)
                      have hbw := (HBW.out.alloc HPM.out.lB (.cells #[.int .u8 (R : Int)] 5)).grown hg (by have := HPM.out.lB; simp; omega) (fun k hk => (HOB.out.lt k hk).1)
                      clear ho hg hat HOB
                      clear HPM HBW fG fV fT fS cG cV cT cS
                      have fG := free_of_one hpm.lG
                      have fV := free_of_one hpm.lV
                      have fT := free_of_one hpm.lT
                      have fS := free_of_one hpm.lS
                      have cG := cell_of_one hpm.lG
                      have cV := cell_of_one hpm.lV
                      have cT := cell_of_one hpm.lT
                      have cS := cell_of_one hpm.lS
                      have HPM := Lib.hid hpm
                      have HBW := Lib.hid hbw
                      clear hpm hbw
                      go_wp2_with fail
                      refine Met.intro ?_
                      go_step
                      exact ⟨a, b3, false, false, false, false, true, false, g, tq, false, ga, ca, g3, c3, q, n + 1, sk, sub, v5, HPM.out.more (by omega), HBW.out, (by omega), (by omega), (by omega), (by omega), HXA.out, hg2, HSL.out, (by first | assumption | omega), (fun h => by rw [HRE.out, ← HB3.out]; exact prun_go (pstep_spq H92.out HSP.out (by simp)) (HR0.out h)), (fun h h' => by rw [HRE.out]; exact fun m => HD0.out h (by first | exact h' | trivial) (List.mem_cons_of_mem _ m)), rfl, ⟨rfl, rfl⟩, rfl, rfl, rfl, rfl, rfl, rfl, rfl, rfl, rfl, rfl, rfl, rfl, rfl, rfl, rfl, rfl, rfl, rfl, rfl, (congrArg (Value.int .i64) (show (n : Int) = ((n + 1 : Nat) : Int) - 1 by omega)), rfl⟩
                  | false =>
                    have HF := Lib.hid (flush_any w1 HPM.out (by omega) (by omega))
                    clear fG fV fT fS cG cV cT cS hcu HU
                    go_wp2_with (go_at_call 38; (with_reducible refine HF.out.mono ?_))
                    rintro e w2 rfl ga' ca' hpm2 hb2
                    dsimp only
                    have HPM2 := Lib.hid hpm2
                    have hfl : (flA a b g).length ≤ a.length + 1 := by unfold flA; split <;> simp
                    clear hpm2
                    go_wp2_with fail
                    refine Met.intro ?_
                    go_step
                    exact ⟨flA a b g, [], false, false, false, false, false, false, 0, false, false, ga', ca', gb, cb, q, n + 1, sk, false, bt, HPM2.out.more (by omega), HBW.out.trans hb2, (by omega), (by omega), (by omega), Nat.zero_le _, (flA_all HXA.out (by omega)), Nat.zero_le _, (fun h => ⟨rfl, (HSL.out h).2⟩), (by first | assumption | omega), (fun h => by rw [HRE.out]; exact prun_go (pstep_sp H92.out HSP.out) (HR0.out h)), (fun h h' => by rw [HRE.out]; exact fun m => HD0.out h (by first | exact h' | trivial) (List.mem_cons_of_mem _ m)), rfl, ⟨rfl, rfl⟩, rfl, rfl, rfl, rfl, rfl, rfl, rfl, rfl, rfl, rfl, rfl, rfl, rfl, rfl, rfl, rfl, rfl, rfl, rfl, (congrArg (Value.int .i64) (show (n : Int) = ((n + 1 : Nat) : Int) - 1 by omega)), rfl⟩
        | false =>
        have HS := Lib.hid (isSpace_any R w1 false hspc)
        have HSP := Lib.hid hspc
        clear hspc
        go_upto_block 2 with (go_at_call 40; (with_reducible refine HS.out.mono ?_); rintro e w9 ⟨rfl, rfl⟩; dsimp only)
        clear HS
        refine wp_cut (fun a1 wx => ∃ (bq : Bool) (bt : Value), PM L s (5 * n) q a ga ca b gb cb g tq sub bt wx ∧ Below L.B w wx ∧ (slp = false → prun cmt (n + 1) REST (PS.put ⟨a, b, false, dq, sq, bq, dl, false, g, tq, false⟩ R) = ANS) ∧ Fr 419 a1 ∧ Sl a1 0 = .pointer (some ⟨P, 0, none⟩) ∧ Sl a1 1 = .string s ∧ Sl a1 6 = .pointer (some ⟨L.A, 0, none⟩) ∧ Sl a1 7 = .pointer (some ⟨L.V, 0, none⟩) ∧ Sl a1 8 = .bool false ∧ Sl a1 9 = .bool dq ∧ Sl a1 10 = .bool sq ∧ Sl a1 11 = .bool bq ∧ Sl a1 12 = .bool dl ∧ Sl a1 13 = .bool false ∧ Sl a1 14 = bt ∧ Sl a1 15 = .int .i64 (-1) ∧ Sl a1 16 = .pointer (some ⟨L.G, 0, none⟩) ∧ Sl a1 17 = .pointer (some ⟨L.T, 0, none⟩) ∧ Sl a1 18 = .pointer (some ⟨L.S, 0, none⟩) ∧ Sl a1 19 = .bool false ∧ Sl a1 20 = .int .i64 (sk : Int) ∧ Sl a1 21 = gv ∧ Sl a1 22 = .func (.func 38) #[] #[.pointer (some ⟨L.G, 0, none⟩), .pointer (some ⟨L.V, 0, none⟩), .pointer (some ⟨L.A, 0, none⟩), .pointer (some ⟨L.T, 0, none⟩), .pointer (some ⟨L.S, 0, none⟩)] ∧ Sl a1 23 = .int .i64 (n : Int) ∧ Sl a1 25 = .int .i32 (R : Int) ∧ Sl a1 50 = .pointer (some ⟨L.I, 0, none⟩)) ?rest2 ?first2
        case first2 =>
          intro J2 K2 hJ2 hK2
          by_cases h96 : R = 96
          · as_aux_lemma =>
              subst h96
              cases sq with
              | true =>
                go_wp2_with fail
                refine Met.intro ?_
                go_step
                exact ⟨_, _, HPM.out, HBW.out, (fun h => prun_go (by simp [pstep, isSpN, isSepN, PS.qd]) (HR0.out h)), ⟨rfl, rfl⟩, rfl, rfl, rfl, rfl, rfl, rfl, rfl, rfl, rfl, rfl, rfl, rfl, rfl, rfl, rfl, rfl, rfl, rfl, rfl, rfl, rfl, rfl⟩
              | false =>
                cases dq with
                | true =>
                  go_wp2_with fail
                  refine Met.intro ?_
                  go_step
                  exact ⟨_, _, HPM.out, HBW.out, (fun h => prun_go (by simp [pstep, isSpN, isSepN, PS.qd]) (HR0.out h)), ⟨rfl, rfl⟩, rfl, rfl, rfl, rfl, rfl, rfl, rfl, rfl, rfl, rfl, rfl, rfl, rfl, rfl, rfl, rfl, rfl, rfl, rfl, rfl, rfl, rfl⟩
                | false =>
                  cases dl with
                  | true =>
                    go_wp2_with fail
                    refine Met.intro ?_
                    go_step
                    exact ⟨_, _, HPM.out, HBW.out, (fun h => prun_go (by simp [pstep, isSpN, isSepN, PS.qd]) (HR0.out h)), ⟨rfl, rfl⟩, rfl, rfl, rfl, rfl, rfl, rfl, rfl, rfl, rfl, rfl, rfl, rfl, rfl, rfl, rfl, rfl, rfl, rfl, rfl, rfl, rfl, rfl⟩
                  | false =>
                    rcases HPM.out.formB with rfl | ⟨gt, nt, ct, rfl, hnt⟩
                    · cases bq with
                      | true =>
                        go_wp2_with fail
                        refine Met.intro ?_
                        go_step
                        exact ⟨_, _, HPM.out, HBW.out, (fun h => prun_go (by simp [pstep, isSpN, isSepN, PS.qd]) (HR0.out h)), ⟨rfl, rfl⟩, rfl, rfl, rfl, rfl, rfl, rfl, rfl, rfl, rfl, rfl, rfl, rfl, rfl, rfl, rfl, rfl, rfl, rfl, rfl, rfl, rfl, rfl⟩
                      | false =>
                        go_wp2_with fail
                        refine Met.intro ?_
                        go_step
                        exact ⟨_, _, HPM.out, HBW.out, (fun h => prun_go (by simp [pstep, isSpN, isSepN, PS.qd]) (HR0.out h)), ⟨rfl, rfl⟩, rfl, rfl, rfl, rfl, rfl, rfl, rfl, rfl, rfl, rfl, rfl, rfl, rfl, rfl, rfl, rfl, rfl, rfl, rfl, rfl, rfl, rfl⟩
                    · cases bq with
                      | true =>
                        go_wp2_with fail
                        refine Met.intro ?_
                        go_step
                        exact ⟨_, _, HPM.out.emptyB, HBW.out, (fun h => prun_go (by simp [pstep, isSpN, isSepN, PS.qd]) (HR0.out h)), ⟨rfl, rfl⟩, rfl, rfl, rfl, rfl, rfl, rfl, rfl, rfl, rfl, rfl, rfl, rfl, rfl, rfl, rfl, rfl, rfl, rfl, rfl, rfl, rfl, rfl⟩
                      | false =>
                        go_wp2_with fail
                        refine Met.intro ?_
                        go_step
                        exact ⟨_, _, HPM.out.emptyB, HBW.out, (fun h => prun_go (by simp [pstep, isSpN, isSepN, PS.qd]) (HR0.out h)), ⟨rfl, rfl⟩, rfl, rfl, rfl, rfl, rfl, rfl, rfl, rfl, rfl, rfl, rfl, rfl, rfl, rfl, rfl, rfl, rfl, rfl, rfl, rfl, rfl, rfl⟩
          have e96 : ((R : Int) == 96) = false := by rw [beq_eq_false_iff_ne]; omega
          have H96 := Lib.hid h96
          clear h96
          by_cases h41 : R = 41
          · as_aux_lemma =>
              subst h41
              cases sq with
              | true =>
                go_wp2_with fail
                refine Met.intro ?_
                go_step
                exact ⟨_, _, HPM.out, HBW.out, (fun h => prun_go (by simp [pstep, isSpN, isSepN, PS.qd]) (HR0.out h)), ⟨rfl, rfl⟩, rfl, rfl, rfl, rfl, rfl, rfl, rfl, rfl, rfl, rfl, rfl, rfl, rfl, rfl, rfl, rfl, rfl, rfl, rfl, rfl, rfl, rfl⟩
              | false =>
                cases dq with
                | true =>
                  go_wp2_with fail
                  refine Met.intro ?_
                  go_step
                  exact ⟨_, _, HPM.out, HBW.out, (fun h => prun_go (by simp [pstep, isSpN, isSepN, PS.qd]) (HR0.out h)), ⟨rfl, rfl⟩, rfl, rfl, rfl, rfl, rfl, rfl, rfl, rfl, rfl, rfl, rfl, rfl, rfl, rfl, rfl, rfl, rfl, rfl, rfl, rfl, rfl, rfl⟩
                | false =>
                  cases bq with
                  | true =>
                    go_wp2_with fail
                    refine Met.intro ?_
                    go_step
                    exact ⟨_, _, HPM.out, HBW.out, (fun h => prun_go (by simp [pstep, isSpN, isSepN, PS.qd]) (HR0.out h)), ⟨rfl, rfl⟩, rfl, rfl, rfl, rfl, rfl, rfl, rfl, rfl, rfl, rfl, rfl, rfl, rfl, rfl, rfl, rfl, rfl, rfl, rfl, rfl, rfl, rfl⟩
                  | false =>
                    cases dl with
                    | false =>
                      have cE := (HBW.out.cell (p := ⟨0, 0, none⟩) (by rw [HLB.out]; exact hEl)).trans hE
                      go_upto_region 63 with fail
                      go_quiet (fail)
                      go_wp2
                      (try rw [Exit.noGoto_ret])
                      go_ret2
                      have hB2 := HBW.out
                      rw [HLB.out] at hB2
                      exact ⟨none, (fun h => (prun_err (by simp [pstep, isSpN, isSepN, PS.qd]) (HR0.out h)).symm), ⟨hB2.os, hB2.tape, hB2.output, hB2.size, fun k hk _ => hB2.block k hk⟩, rfl, HP1.out⟩
                    | true =>
                      go_upto_region 64 with fail
                      go_wp2_with (at_builtin; refine wpList_append_own_at _ rfl _ _ 56 rfl L.B 5 j0 (.int .u8 0) 1 1 Tryd.underlying56 HJ.out.1 HJ.out.2.1 HJ.out.2.2.1 HJ.out.2.2.2 rfl (by decide) _ _ _ rfl (HPM.out.oV.alloc _) ⟨w1.heap.size, 0, none⟩ 1 1 [.int .u8 41] rfl rfl ?h27a ?h27b ?h27c ?h27d ?h27e ?_)
                      first | (case h27a => exact cell_one_new _ _ _) | skip
                      case h27b => first | rfl | (intro u hu; simp at hu; subst hu; rfl)
                      case h27c => unfold maxLen; (try simp only [List.length_append, List.length_cons, List.length_nil]); omega
                      case h27d => (try simp only [List.length_append, List.length_cons, List.length_nil]); omega
                      case h27e => have := HPM.out.lB; simp; omega
                      intro v1 w3a ho hg _ hat
                      obtain ⟨g3, c3, rfl, hV1, hpm⟩ := (HPM.out.alloc (.cells #[.int .u8 41] 5)).app (l := [41]) hg (by simpa [Lib.byteCells] using ho) (hat.imp (fun h => h) (fun h => by simpa using h))
                      have hbw := (((HBW.out.alloc HPM.out.lB (.cells #[.int .u8 41] 5)).grown hg (by have := HPM.out.lB; simp; omega) (fun k hk => (HPM.out.oV.lt k hk).1))).setCell (p := ⟨L.V, 0, none⟩) L.hV (.slice (some ⟨g3, 0, none⟩) ((b).length + ([41]).length) c3)
                      have fV1 := free_of_one hV1
                      have cV1 := cell_of_one hV1
                      clear hV1 ho hg hat
                      clear HPM HBW fG fV fT fS cG cV cT cS
                      go_upto_region 65 with fail
                      clear fV1 cV1
                      generalize (w3a.setCell ⟨L.V, 0, none⟩ (.slice (some ⟨g3, 0, none⟩) ((b).length + ([41]).length) c3)) = w3 at hpm hbw ⊢
                      obtain ⟨b3, hb3⟩ : ∃ x, b ++ [41] = x := ⟨_, rfl⟩
                      have hl3 : b3.length ≤ b.length + 1 := by rw [← hb3, List.length_append]; have := HE.out.1; simp; try omega
                      rw [hb3] at hpm
                      have HB3 := Lib.hid hb3
                      clear hb3
                      have fG := free_of_one hpm.lG
                      have fV := free_of_one hpm.lV
                      have fT := free_of_one hpm.lT
                      have fS := free_of_one hpm.lS
                      have cG := cell_of_one hpm.lG
                      have cV := cell_of_one hpm.lV
                      have cT := cell_of_one hpm.lT
                      have cS := cell_of_one hpm.lS
                      have HPM := Lib.hid hpm
                      have HBW := Lib.hid hbw
                      clear hpm hbw
                      rcases HPM.out.formB with rfl | ⟨gt, nt, ct, rfl, hnt⟩
                      · go_wp2_with fail
                        refine Met.intro ?_
                        go_step
                        exact ⟨a, b3, false, false, false, false, false, false, 1, tq, false, ga, ca, g3, c3, q, n + 1, sk, sub, (.slice none 0 0), (HPM.out.setG 1).more (by omega), HBW.out.setCell L.hG _, (by omega), (by omega), (by omega), (by omega), HXA.out, (by omega), HSL.out, (by first | assumption | omega), (fun h => by rw [HRE.out, ← HB3.out]; exact prun_go (by simp [pstep, isSpN, isSepN, PS.qd]) (HR0.out h)), (fun h h' => by rw [HRE.out]; exact fun m => HD0.out h (by first | exact h' | trivial) (List.mem_cons_of_mem _ m)), rfl, ⟨rfl, rfl⟩, rfl, rfl, rfl, rfl, rfl, rfl, rfl, rfl, rfl, rfl, rfl, rfl, rfl, rfl, rfl, rfl, rfl, rfl, rfl, (congrArg (Value.int .i64) (show (n : Int) = ((n + 1 : Nat) : Int) - 1 by omega)), rfl⟩
                      · go_wp2_with fail
                        refine Met.intro ?_
                        go_step
                        exact ⟨a, b3, false, false, false, false, false, false, 1, tq, false, ga, ca, g3, c3, q, n + 1, sk, sub, (.slice (some ⟨gt, 0, none⟩) 0 ct), (HPM.out.emptyB.setG 1).more (by omega), HBW.out.setCell L.hG _, (by omega), (by omega), (by omega), (by omega), HXA.out, (by omega), HSL.out, (by first | assumption | omega), (fun h => by rw [HRE.out, ← HB3.out]; exact prun_go (by simp [pstep, isSpN, isSepN, PS.qd]) (HR0.out h)), (fun h h' => by rw [HRE.out]; exact fun m => HD0.out h (by first | exact h' | trivial) (List.mem_cons_of_mem _ m)), rfl, ⟨rfl, rfl⟩, rfl, rfl, rfl, rfl, rfl, rfl, rfl, rfl, rfl, rfl, rfl, rfl, rfl, rfl, rfl, rfl, rfl, rfl, rfl, (congrArg (Value.int .i64) (show (n : Int) = ((n + 1 : Nat) : Int) - 1 by omega)), rfl⟩
          have e41 : ((R : Int) == 41) = false := by rw [beq_eq_false_iff_ne]; omega
          have H41 := Lib.hid h41
          clear h41
          by_cases h40 : R = 40
          · as_aux_lemma =>
              subst h40
              cases sq with
              | true =>
                go_wp2_with fail
                refine Met.intro ?_
                go_step
                exact ⟨_, _, HPM.out, HBW.out, (fun h => prun_go (by simp [pstep, isSpN, isSepN, PS.qd]) (HR0.out h)), ⟨rfl, rfl⟩, rfl, rfl, rfl, rfl, rfl, rfl, rfl, rfl, rfl, rfl, rfl, rfl, rfl, rfl, rfl, rfl, rfl, rfl, rfl, rfl, rfl, rfl⟩
              | false =>
                cases dq with
                | true =>
                  go_wp2_with fail
                  refine Met.intro ?_
                  go_step
                  exact ⟨_, _, HPM.out, HBW.out, (fun h => prun_go (by simp [pstep, isSpN, isSepN, PS.qd]) (HR0.out h)), ⟨rfl, rfl⟩, rfl, rfl, rfl, rfl, rfl, rfl, rfl, rfl, rfl, rfl, rfl, rfl, rfl, rfl, rfl, rfl, rfl, rfl, rfl, rfl, rfl, rfl⟩
                | false =>
                  cases bq with
                  | true =>
                    go_wp2_with fail
                    refine Met.intro ?_
                    go_step
                    exact ⟨_, _, HPM.out, HBW.out, (fun h => prun_go (by simp [pstep, isSpN, isSepN, PS.qd]) (HR0.out h)), ⟨rfl, rfl⟩, rfl, rfl, rfl, rfl, rfl, rfl, rfl, rfl, rfl, rfl, rfl, rfl, rfl, rfl, rfl, rfl, rfl, rfl, rfl, rfl, rfl, rfl⟩
                  | false =>
                    cases dl with
                    | true =>
                      have cE := (HBW.out.cell (p := ⟨0, 0, none⟩) (by rw [HLB.out]; exact hEl)).trans hE
                      go_upto_region 73 with fail
                      go_quiet (fail)
                      go_wp2
                      (try rw [Exit.noGoto_ret])
                      go_ret2
                      have hB2 := HBW.out
                      rw [HLB.out] at hB2
                      exact ⟨none, (fun h => (prun_err (by simp [pstep, isSpN, isSepN, PS.qd]) (HR0.out h)).symm), ⟨hB2.os, hB2.tape, hB2.output, hB2.size, fun k hk _ => hB2.block k hk⟩, rfl, HP1.out⟩
                    | false =>
                    cases ad with
                    | false =>
                      have cE := (HBW.out.cell (p := ⟨0, 0, none⟩) (by rw [HLB.out]; exact hEl)).trans hE
                      go_upto_region 73 with fail
                      go_quiet (fail)
                      go_wp2
                      (try rw [Exit.noGoto_ret])
                      go_ret2
                      have hB2 := HBW.out
                      rw [HLB.out] at hB2
                      exact ⟨none, (fun h => (prun_err (by simp [pstep, isSpN, isSepN, PS.qd]) (HR0.out h)).symm), ⟨hB2.os, hB2.tape, hB2.output, hB2.size, fun k hk _ => hB2.block k hk⟩, rfl, HP1.out⟩
                    | true =>
                    go_upto_region 72 with fail
                    go_wp2_with (at_builtin; refine wpList_append_own_at _ rfl _ _ 56 rfl L.B 5 j0 (.int .u8 0) 1 1 Tryd.underlying56 HJ.out.1 HJ.out.2.1 HJ.out.2.2.1 HJ.out.2.2.2 rfl (by decide) _ _ _ rfl (HPM.out.oV.alloc _) ⟨w1.heap.size, 0, none⟩ 1 1 [.int .u8 40] rfl rfl ?h28a ?h28b ?h28c ?h28d ?h28e ?_)
                    first | (case h28a => exact cell_one_new _ _ _) | skip
                    case h28b => first | rfl | (intro u hu; simp at hu; subst hu; rfl)
                    case h28c => unfold maxLen; (try simp only [List.length_append, List.length_cons, List.length_nil]); omega
                    case h28d => (try simp only [List.length_append, List.length_cons, List.length_nil]); omega
                    case h28e => have := HPM.out.lB; simp; omega
                    intro v1 w3a ho hg _ hat
                    obtain ⟨g3, c3, rfl, hV1, hpm⟩ := (HPM.out.alloc (.cells #[.int .u8 40] 5)).app (l := [40]) hg (by simpa [Lib.byteCells] using ho) (hat.imp (fun h => h) (fun h => by simpa using h))
                    have hbw := (((HBW.out.alloc HPM.out.lB (.cells #[.int .u8 40] 5)).grown hg (by have := HPM.out.lB; simp; omega) (fun k hk => (HPM.out.oV.lt k hk).1))).setCell (p := ⟨L.V, 0, none⟩) L.hV (.slice (some ⟨g3, 0, none⟩) ((b).length + ([40]).length) c3)
                    have fV1 := free_of_one hV1
                    have cV1 := cell_of_one hV1
                    clear hV1 ho hg hat
                    clear HPM HBW fG fV fT fS cG cV cT cS
                    go_upto_region 73 with fail
                    clear fV1 cV1
                    generalize (w3a.setCell ⟨L.V, 0, none⟩ (.slice (some ⟨g3, 0, none⟩) ((b).length + ([40]).length) c3)) = w3 at hpm hbw ⊢
                    obtain ⟨b3, hb3⟩ : ∃ x, b ++ [40] = x := ⟨_, rfl⟩
                    have hl3 : b3.length ≤ b.length + 1 := by rw [← hb3, List.length_append]; have := HE.out.1; simp; try omega
                    rw [hb3] at hpm
                    have HB3 := Lib.hid hb3
                    clear hb3
                    have fG := free_of_one hpm.lG
                    have fV := free_of_one hpm.lV
                    have fT := free_of_one hpm.lT
                    have fS := free_of_one hpm.lS
                    have cG := cell_of_one hpm.lG
                    have cV := cell_of_one hpm.lV
                    have cT := cell_of_one hpm.lT
                    have cS := cell_of_one hpm.lS
                    have HPM := Lib.hid hpm
                    have HBW := Lib.hid hbw
                    clear hpm hbw
                    go_wp2_with fail
                    refine Met.intro ?_
                    go_step
                    exact ⟨a, b3, false, false, false, false, true, false, g, tq, false, ga, ca, g3, c3, q, n + 1, sk, sub, bt, HPM.out.more (by omega), HBW.out, (by omega), (by omega), (by omega), (by omega), HXA.out, hg2, HSL.out, (by first | assumption | omega), (fun h => by rw [HRE.out, ← HB3.out]; exact prun_go (by simp [pstep, isSpN, isSepN, PS.qd]) (HR0.out h)), (fun h h' => by rw [HRE.out]; exact fun m => HD0.out h (by first | exact h' | trivial) (List.mem_cons_of_mem _ m)), rfl, ⟨rfl, rfl⟩, rfl, rfl, rfl, rfl, rfl, rfl, rfl, rfl, rfl, rfl, rfl, rfl, rfl, rfl, rfl, rfl, rfl, rfl, rfl, (congrArg (Value.int .i64) (show (n : Int) = ((n + 1 : Nat) : Int) - 1 by omega)), rfl⟩
          have e40 : ((R : Int) == 40) = false := by rw [beq_eq_false_iff_ne]; omega
          have H40 := Lib.hid h40
          clear h40
          by_cases h34 : R = 34
          · as_aux_lemma =>
              subst h34
              cases sq with
              | true =>
                go_wp2_with fail
                refine Met.intro ?_
                go_step
                exact ⟨_, _, HPM.out, HBW.out, (fun h => prun_go (by simp [pstep, isSpN, isSepN, PS.qd]) (HR0.out h)), ⟨rfl, rfl⟩, rfl, rfl, rfl, rfl, rfl, rfl, rfl, rfl, rfl, rfl, rfl, rfl, rfl, rfl, rfl, rfl, rfl, rfl, rfl, rfl, rfl, rfl⟩
              | false =>
                cases dl with
                | true =>
                  go_wp2_with fail
                  refine Met.intro ?_
                  go_step
                  exact ⟨_, _, HPM.out, HBW.out, (fun h => prun_go (by simp [pstep, isSpN, isSepN, PS.qd]) (HR0.out h)), ⟨rfl, rfl⟩, rfl, rfl, rfl, rfl, rfl, rfl, rfl, rfl, rfl, rfl, rfl, rfl, rfl, rfl, rfl, rfl, rfl, rfl, rfl, rfl, rfl, rfl⟩
                | false =>
                  cases bq with
                  | true =>
                    go_wp2_with fail
                    refine Met.intro ?_
                    go_step
                    exact ⟨_, _, HPM.out, HBW.out, (fun h => prun_go (by simp [pstep, isSpN, isSepN, PS.qd]) (HR0.out h)), ⟨rfl, rfl⟩, rfl, rfl, rfl, rfl, rfl, rfl, rfl, rfl, rfl, rfl, rfl, rfl, rfl, rfl, rfl, rfl, rfl, rfl, rfl, rfl, rfl, rfl⟩
                  | false =>
                    cases dq with
                    | true =>
                      have hTG : L.T ≠ L.G := ty_ne HPM.out.lT HPM.out.lG (by decide)
                      go_wp2_with fail
                      refine Met.intro ?_
                      go_step
                      exact ⟨a, b, false, false, false, false, false, false, 2, true, false, ga, ca, gb, cb, q, n + 1, sk, sub, bt, ((HPM.out.setG 2).setT true).more (by omega), (HBW.out.setCell L.hG _).setCell L.hT _, (by omega), (by omega), (by omega), (by omega), HXA.out, (by omega), HSL.out, (by first | assumption | omega), (fun h => by rw [HRE.out]; exact prun_go (by simp [pstep, isSpN, isSepN, PS.qd]) (HR0.out h)), (fun h h' => by rw [HRE.out]; exact fun m => HD0.out h (by first | exact h' | trivial) (List.mem_cons_of_mem _ m)), rfl, ⟨rfl, rfl⟩, rfl, rfl, rfl, rfl, rfl, rfl, rfl, rfl, rfl, rfl, rfl, rfl, rfl, rfl, rfl, rfl, rfl, rfl, rfl, (congrArg (Value.int .i64) (show (n : Int) = ((n + 1 : Nat) : Int) - 1 by omega)), rfl⟩
                    | false =>
                    go_wp2_with fail
                    refine Met.intro ?_
                    go_step
                    exact ⟨a, b, false, true, false, false, false, false, g, true, false, ga, ca, gb, cb, q, n + 1, sk, sub, bt, (HPM.out.setT true).more (by omega), HBW.out.setCell L.hT _, (by omega), (by omega), (by omega), (by omega), HXA.out, hg2, HSL.out, (by first | assumption | omega), (fun h => by rw [HRE.out]; exact prun_go (by simp [pstep, isSpN, isSepN, PS.qd]) (HR0.out h)), (fun h h' => by rw [HRE.out]; exact fun m => HD0.out h (by first | exact h' | trivial) (List.mem_cons_of_mem _ m)), rfl, ⟨rfl, rfl⟩, rfl, rfl, rfl, rfl, rfl, rfl, rfl, rfl, rfl, rfl, rfl, rfl, rfl, rfl, rfl, rfl, rfl, rfl, rfl, (congrArg (Value.int .i64) (show (n : Int) = ((n + 1 : Nat) : Int) - 1 by omega)), rfl⟩
          have e34 : ((R : Int) == 34) = false := by rw [beq_eq_false_iff_ne]; omega
          have H34 := Lib.hid h34
          clear h34
          by_cases h39 : R = 39
          · as_aux_lemma =>
              subst h39
              cases dq with
              | true =>
                go_wp2_with fail
                refine Met.intro ?_
                go_step
                exact ⟨_, _, HPM.out, HBW.out, (fun h => prun_go (by simp [pstep, isSpN, isSepN, PS.qd]) (HR0.out h)), ⟨rfl, rfl⟩, rfl, rfl, rfl, rfl, rfl, rfl, rfl, rfl, rfl, rfl, rfl, rfl, rfl, rfl, rfl, rfl, rfl, rfl, rfl, rfl, rfl, rfl⟩
              | false =>
                cases dl with
                | true =>
                  go_wp2_with fail
                  refine Met.intro ?_
                  go_step
                  exact ⟨_, _, HPM.out, HBW.out, (fun h => prun_go (by simp [pstep, isSpN, isSepN, PS.qd]) (HR0.out h)), ⟨rfl, rfl⟩, rfl, rfl, rfl, rfl, rfl, rfl, rfl, rfl, rfl, rfl, rfl, rfl, rfl, rfl, rfl, rfl, rfl, rfl, rfl, rfl, rfl, rfl⟩
                | false =>
                  cases bq with
                  | true =>
                    go_wp2_with fail
                    refine Met.intro ?_
                    go_step
                    exact ⟨_, _, HPM.out, HBW.out, (fun h => prun_go (by simp [pstep, isSpN, isSepN, PS.qd]) (HR0.out h)), ⟨rfl, rfl⟩, rfl, rfl, rfl, rfl, rfl, rfl, rfl, rfl, rfl, rfl, rfl, rfl, rfl, rfl, rfl, rfl, rfl, rfl, rfl, rfl, rfl, rfl⟩
                  | false =>
                    cases sq with
                    | true =>
                      have hTG : L.T ≠ L.G := ty_ne HPM.out.lT HPM.out.lG (by decide)
                      go_wp2_with fail
                      refine Met.intro ?_
                      go_step
                      exact ⟨a, b, false, false, false, false, false, false, 2, true, false, ga, ca, gb, cb, q, n + 1, sk, sub, bt, ((HPM.out.setG 2).setT true).more (by omega), (HBW.out.setCell L.hG _).setCell L.hT _, (by omega), (by omega), (by omega), (by omega), HXA.out, (by omega), HSL.out, (by first | assumption | omega), (fun h => by rw [HRE.out]; exact prun_go (by simp [pstep, isSpN, isSepN, PS.qd]) (HR0.out h)), (fun h h' => by rw [HRE.out]; exact fun m => HD0.out h (by first | exact h' | trivial) (List.mem_cons_of_mem _ m)), rfl, ⟨rfl, rfl⟩, rfl, rfl, rfl, rfl, rfl, rfl, rfl, rfl, rfl, rfl, rfl, rfl, rfl, rfl, rfl, rfl, rfl, rfl, rfl, (congrArg (Value.int .i64) (show (n : Int) = ((n + 1 : Nat) : Int) - 1 by omega)), rfl⟩
                    | false =>
                    go_wp2_with fail
                    refine Met.intro ?_
                    go_step
                    exact ⟨a, b, false, false, true, false, false, false, g, true, false, ga, ca, gb, cb, q, n + 1, sk, sub, bt, (HPM.out.setT true).more (by omega), HBW.out.setCell L.hT _, (by omega), (by omega), (by omega), (by omega), HXA.out, hg2, HSL.out, (by first | assumption | omega), (fun h => by rw [HRE.out]; exact prun_go (by simp [pstep, isSpN, isSepN, PS.qd]) (HR0.out h)), (fun h h' => by rw [HRE.out]; exact fun m => HD0.out h (by first | exact h' | trivial) (List.mem_cons_of_mem _ m)), rfl, ⟨rfl, rfl⟩, rfl, rfl, rfl, rfl, rfl, rfl, rfl, rfl, rfl, rfl, rfl, rfl, rfl, rfl, rfl, rfl, rfl, rfl, rfl, (congrArg (Value.int .i64) (show (n : Int) = ((n + 1 : Nat) : Int) - 1 by omega)), rfl⟩
          have e39 : ((R : Int) == 39) = false := by rw [beq_eq_false_iff_ne]; omega
          have H39 := Lib.hid h39
          clear h39
          by_cases h59 : R = 59
          · as_aux_lemma =>
              subst h59
              cases sq with
              | true =>
                go_wp2_with fail
                refine Met.intro ?_
                go_step
                exact ⟨_, _, HPM.out, HBW.out, (fun h => prun_go (by simp [pstep, isSpN, isSepN, PS.qd]) (HR0.out h)), ⟨rfl, rfl⟩, rfl, rfl, rfl, rfl, rfl, rfl, rfl, rfl, rfl, rfl, rfl, rfl, rfl, rfl, rfl, rfl, rfl, rfl, rfl, rfl, rfl, rfl⟩
              | false =>
                cases dq with
                | true =>
                  go_wp2_with fail
                  refine Met.intro ?_
                  go_step
                  exact ⟨_, _, HPM.out, HBW.out, (fun h => prun_go (by simp [pstep, isSpN, isSepN, PS.qd]) (HR0.out h)), ⟨rfl, rfl⟩, rfl, rfl, rfl, rfl, rfl, rfl, rfl, rfl, rfl, rfl, rfl, rfl, rfl, rfl, rfl, rfl, rfl, rfl, rfl, rfl, rfl, rfl⟩
                | false =>
                  cases bq with
                  | true =>
                    go_wp2_with fail
                    refine Met.intro ?_
                    go_step
                    exact ⟨_, _, HPM.out, HBW.out, (fun h => prun_go (by simp [pstep, isSpN, isSepN, PS.qd]) (HR0.out h)), ⟨rfl, rfl⟩, rfl, rfl, rfl, rfl, rfl, rfl, rfl, rfl, rfl, rfl, rfl, rfl, rfl, rfl, rfl, rfl, rfl, rfl, rfl, rfl, rfl, rfl⟩
                  | false =>
                    cases dl with
                    | true =>
                      go_wp2_with fail
                      refine Met.intro ?_
                      go_step
                      exact ⟨_, _, HPM.out, HBW.out, (fun h => prun_go (by simp [pstep, isSpN, isSepN, PS.qd]) (HR0.out h)), ⟨rfl, rfl⟩, rfl, rfl, rfl, rfl, rfl, rfl, rfl, rfl, rfl, rfl, rfl, rfl, rfl, rfl, rfl, rfl, rfl, rfl, rfl, rfl, rfl, rfl⟩
                    | false =>
                      go_wp2_with fail
                      refine Met.intro ?_
                      go_step
                      exact ⟨a, b, false, false, false, false, false, false, g, tq, false, ga, ca, gb, cb, q, 5 * n, sub, bt, (n : Int), HPM.out, HBW.out, (by omega), (by omega), HXA.out, (by omega), (fun h => by have := prun_stop (show pstep cmt 59 ⟨a, b, false, false, false, false, false, false, g, tq, ad⟩ = .stop ⟨a, b, false, false, false, false, false, false, g, tq, false⟩ 0 by simp [pstep, isSpN, isSepN, PS.qd]) (HR0.out h); simpa using this), ⟨rfl, rfl⟩, rfl, rfl, rfl, rfl, rfl, rfl, rfl, rfl, rfl, rfl⟩
          have e59 : ((R : Int) == 59) = false := by rw [beq_eq_false_iff_ne]; omega
          have H59 := Lib.hid h59
          clear h59
          by_cases h38 : R = 38
          · as_aux_lemma =>
              subst h38
              cases sq with
              | true =>
                go_wp2_with fail
                refine Met.intro ?_
                go_step
                exact ⟨_, _, HPM.out, HBW.out, (fun h => prun_go (by simp [pstep, isSpN, isSepN, PS.qd]) (HR0.out h)), ⟨rfl, rfl⟩, rfl, rfl, rfl, rfl, rfl, rfl, rfl, rfl, rfl, rfl, rfl, rfl, rfl, rfl, rfl, rfl, rfl, rfl, rfl, rfl, rfl, rfl⟩
              | false =>
                cases dq with
                | true =>
                  go_wp2_with fail
                  refine Met.intro ?_
                  go_step
                  exact ⟨_, _, HPM.out, HBW.out, (fun h => prun_go (by simp [pstep, isSpN, isSepN, PS.qd]) (HR0.out h)), ⟨rfl, rfl⟩, rfl, rfl, rfl, rfl, rfl, rfl, rfl, rfl, rfl, rfl, rfl, rfl, rfl, rfl, rfl, rfl, rfl, rfl, rfl, rfl, rfl, rfl⟩
                | false =>
                  cases bq with
                  | true =>
                    go_wp2_with fail
                    refine Met.intro ?_
                    go_step
                    exact ⟨_, _, HPM.out, HBW.out, (fun h => prun_go (by simp [pstep, isSpN, isSepN, PS.qd]) (HR0.out h)), ⟨rfl, rfl⟩, rfl, rfl, rfl, rfl, rfl, rfl, rfl, rfl, rfl, rfl, rfl, rfl, rfl, rfl, rfl, rfl, rfl, rfl, rfl, rfl, rfl, rfl⟩
                  | false =>
                    cases dl with
                    | true =>
                      go_wp2_with fail
                      refine Met.intro ?_
                      go_step
                      exact ⟨_, _, HPM.out, HBW.out, (fun h => prun_go (by simp [pstep, isSpN, isSepN, PS.qd]) (HR0.out h)), ⟨rfl, rfl⟩, rfl, rfl, rfl, rfl, rfl, rfl, rfl, rfl, rfl, rfl, rfl, rfl, rfl, rfl, rfl, rfl, rfl, rfl, rfl, rfl, rfl, rfl⟩
                    | false =>
                      go_wp2_with fail
                      refine Met.intro ?_
                      go_step
                      exact ⟨a, b, false, false, false, false, false, false, g, tq, false, ga, ca, gb, cb, q, 5 * n, sub, bt, (n : Int), HPM.out, HBW.out, (by omega), (by omega), HXA.out, (by omega), (fun h => by have := prun_stop (show pstep cmt 38 ⟨a, b, false, false, false, false, false, false, g, tq, ad⟩ = .stop ⟨a, b, false, false, false, false, false, false, g, tq, false⟩ 0 by simp [pstep, isSpN, isSepN, PS.qd]) (HR0.out h); simpa using this), ⟨rfl, rfl⟩, rfl, rfl, rfl, rfl, rfl, rfl, rfl, rfl, rfl, rfl⟩
          have e38 : ((R : Int) == 38) = false := by rw [beq_eq_false_iff_ne]; omega
          have H38 := Lib.hid h38
          clear h38
          by_cases h124 : R = 124
          · as_aux_lemma =>
              subst h124
              cases sq with
              | true =>
                go_wp2_with fail
                refine Met.intro ?_
                go_step
                exact ⟨_, _, HPM.out, HBW.out, (fun h => prun_go (by simp [pstep, isSpN, isSepN, PS.qd]) (HR0.out h)), ⟨rfl, rfl⟩, rfl, rfl, rfl, rfl, rfl, rfl, rfl, rfl, rfl, rfl, rfl, rfl, rfl, rfl, rfl, rfl, rfl, rfl, rfl, rfl, rfl, rfl⟩
              | false =>
                cases dq with
                | true =>
                  go_wp2_with fail
                  refine Met.intro ?_
                  go_step
                  exact ⟨_, _, HPM.out, HBW.out, (fun h => prun_go (by simp [pstep, isSpN, isSepN, PS.qd]) (HR0.out h)), ⟨rfl, rfl⟩, rfl, rfl, rfl, rfl, rfl, rfl, rfl, rfl, rfl, rfl, rfl, rfl, rfl, rfl, rfl, rfl, rfl, rfl, rfl, rfl, rfl, rfl⟩
                | false =>
                  cases bq with
                  | true =>
                    go_wp2_with fail
                    refine Met.intro ?_
                    go_step
                    exact ⟨_, _, HPM.out, HBW.out, (fun h => prun_go (by simp [pstep, isSpN, isSepN, PS.qd]) (HR0.out h)), ⟨rfl, rfl⟩, rfl, rfl, rfl, rfl, rfl, rfl, rfl, rfl, rfl, rfl, rfl, rfl, rfl, rfl, rfl, rfl, rfl, rfl, rfl, rfl, rfl, rfl⟩
                  | false =>
                    cases dl with
                    | true =>
                      go_wp2_with fail
                      refine Met.intro ?_
                      go_step
                      exact ⟨_, _, HPM.out, HBW.out, (fun h => prun_go (by simp [pstep, isSpN, isSepN, PS.qd]) (HR0.out h)), ⟨rfl, rfl⟩, rfl, rfl, rfl, rfl, rfl, rfl, rfl, rfl, rfl, rfl, rfl, rfl, rfl, rfl, rfl, rfl, rfl, rfl, rfl, rfl, rfl, rfl⟩
                    | false =>
                      go_wp2_with fail
                      refine Met.intro ?_
                      go_step
                      exact ⟨a, b, false, false, false, false, false, false, g, tq, false, ga, ca, gb, cb, q, 5 * n, sub, bt, (n : Int), HPM.out, HBW.out, (by omega), (by omega), HXA.out, (by omega), (fun h => by have := prun_stop (show pstep cmt 124 ⟨a, b, false, false, false, false, false, false, g, tq, ad⟩ = .stop ⟨a, b, false, false, false, false, false, false, g, tq, false⟩ 0 by simp [pstep, isSpN, isSepN, PS.qd]) (HR0.out h); simpa using this), ⟨rfl, rfl⟩, rfl, rfl, rfl, rfl, rfl, rfl, rfl, rfl, rfl, rfl⟩
          have e124 : ((R : Int) == 124) = false := by rw [beq_eq_false_iff_ne]; omega
          have H124 := Lib.hid h124
          clear h124
          by_cases h60 : R = 60
          · as_aux_lemma =>
              subst h60
              cases sq with
              | true =>
                go_wp2_with fail
                refine Met.intro ?_
                go_step
                exact ⟨_, _, HPM.out, HBW.out, (fun h => prun_go (by simp [pstep, isSpN, isSepN, PS.qd]) (HR0.out h)), ⟨rfl, rfl⟩, rfl, rfl, rfl, rfl, rfl, rfl, rfl, rfl, rfl, rfl, rfl, rfl, rfl, rfl, rfl, rfl, rfl, rfl, rfl, rfl, rfl, rfl⟩
              | false =>
                cases dq with
                | true =>
                  go_wp2_with fail
                  refine Met.intro ?_
                  go_step
                  exact ⟨_, _, HPM.out, HBW.out, (fun h => prun_go (by simp [pstep, isSpN, isSepN, PS.qd]) (HR0.out h)), ⟨rfl, rfl⟩, rfl, rfl, rfl, rfl, rfl, rfl, rfl, rfl, rfl, rfl, rfl, rfl, rfl, rfl, rfl, rfl, rfl, rfl, rfl, rfl, rfl, rfl⟩
                | false =>
                  cases bq with
                  | true =>
                    go_wp2_with fail
                    refine Met.intro ?_
                    go_step
                    exact ⟨_, _, HPM.out, HBW.out, (fun h => prun_go (by simp [pstep, isSpN, isSepN, PS.qd]) (HR0.out h)), ⟨rfl, rfl⟩, rfl, rfl, rfl, rfl, rfl, rfl, rfl, rfl, rfl, rfl, rfl, rfl, rfl, rfl, rfl, rfl, rfl, rfl, rfl, rfl, rfl, rfl⟩
                  | false =>
                    cases dl with
                    | true =>
                      go_wp2_with fail
                      refine Met.intro ?_
                      go_step
                      exact ⟨_, _, HPM.out, HBW.out, (fun h => prun_go (by simp [pstep, isSpN, isSepN, PS.qd]) (HR0.out h)), ⟨rfl, rfl⟩, rfl, rfl, rfl, rfl, rfl, rfl, rfl, rfl, rfl, rfl, rfl, rfl, rfl, rfl, rfl, rfl, rfl, rfl, rfl, rfl, rfl, rfl⟩
                    | false =>
                      go_wp2_with fail
                      refine Met.intro ?_
                      go_step
                      exact ⟨a, b, false, false, false, false, false, false, g, tq, false, ga, ca, gb, cb, q, 5 * n, sub, bt, (n : Int), HPM.out, HBW.out, (by omega), (by omega), HXA.out, (by omega), (fun h => by have := prun_stop (show pstep cmt 60 ⟨a, b, false, false, false, false, false, false, g, tq, ad⟩ = .stop ⟨a, b, false, false, false, false, false, false, g, tq, false⟩ 0 by simp [pstep, isSpN, isSepN, PS.qd]) (HR0.out h); simpa using this), ⟨rfl, rfl⟩, rfl, rfl, rfl, rfl, rfl, rfl, rfl, rfl, rfl, rfl⟩
          have e60 : ((R : Int) == 60) = false := by rw [beq_eq_false_iff_ne]; omega
          have H60 := Lib.hid h60
          clear h60
          by_cases h62 : R = 62
          · as_aux_lemma =>
              subst h62
              cases sq with
              | true =>
                go_wp2_with fail
                refine Met.intro ?_
                go_step
                exact ⟨_, _, HPM.out, HBW.out, (fun h => prun_go (by simp [pstep, isSpN, isSepN, PS.qd]) (HR0.out h)), ⟨rfl, rfl⟩, rfl, rfl, rfl, rfl, rfl, rfl, rfl, rfl, rfl, rfl, rfl, rfl, rfl, rfl, rfl, rfl, rfl, rfl, rfl, rfl, rfl, rfl⟩
              | false =>
                cases dq with
                | true =>
                  go_wp2_with fail
                  refine Met.intro ?_
                  go_step
                  exact ⟨_, _, HPM.out, HBW.out, (fun h => prun_go (by simp [pstep, isSpN, isSepN, PS.qd]) (HR0.out h)), ⟨rfl, rfl⟩, rfl, rfl, rfl, rfl, rfl, rfl, rfl, rfl, rfl, rfl, rfl, rfl, rfl, rfl, rfl, rfl, rfl, rfl, rfl, rfl, rfl, rfl⟩
                | false =>
                  cases bq with
                  | true =>
                    go_wp2_with fail
                    refine Met.intro ?_
                    go_step
                    exact ⟨_, _, HPM.out, HBW.out, (fun h => prun_go (by simp [pstep, isSpN, isSepN, PS.qd]) (HR0.out h)), ⟨rfl, rfl⟩, rfl, rfl, rfl, rfl, rfl, rfl, rfl, rfl, rfl, rfl, rfl, rfl, rfl, rfl, rfl, rfl, rfl, rfl, rfl, rfl, rfl, rfl⟩
                  | false =>
                    cases dl with
                    | true =>
                      go_wp2_with fail
                      refine Met.intro ?_
                      go_step
                      exact ⟨_, _, HPM.out, HBW.out, (fun h => prun_go (by simp [pstep, isSpN, isSepN, PS.qd]) (HR0.out h)), ⟨rfl, rfl⟩, rfl, rfl, rfl, rfl, rfl, rfl, rfl, rfl, rfl, rfl, rfl, rfl, rfl, rfl, rfl, rfl, rfl, rfl, rfl, rfl, rfl, rfl⟩
                    | false =>
                      by_cases hb0 : b = []
                      · have hbl0 : ¬ 0 < b.length := by rw [hb0]; simp
                        have HB0 := Lib.hid hb0
                        clear hb0
                        go_wp2_with fail
                        refine Met.intro ?_
                        go_step
                        exact ⟨a, b, false, false, false, false, false, false, g, tq, false, ga, ca, gb, cb, q, 5 * n, sub, bt, (n : Int), HPM.out, HBW.out, (by omega), (by omega), HXA.out, (by omega), (fun h => by have := prun_stop (show pstep cmt 62 ⟨a, b, false, false, false, false, false, false, g, tq, ad⟩ = .stop ⟨a, b, false, false, false, false, false, false, g, tq, false⟩ 0 by simp [pstep, isSpN, isSepN, PS.qd, HB0.out]) (HR0.out h); simpa using this), ⟨rfl, rfl⟩, rfl, rfl, rfl, rfl, rfl, rfl, rfl, rfl, rfl, rfl⟩
                      have hbl0 : 0 < b.length := List.length_pos_iff.2 hb0
                      have HB0 := Lib.hid (show b.isEmpty = false by cases b with | nil => exact absurd rfl hb0 | cons c l => rfl)
                      clear hb0
                      cases tq with
                      | true =>
                        go_wp2_with fail
                        refine Met.intro ?_
                        go_step
                        exact ⟨a, b, false, false, false, false, false, false, g, true, false, ga, ca, gb, cb, q, 5 * n, sub, bt, (n : Int), HPM.out, HBW.out, (by omega), (by omega), HXA.out, (by omega), (fun h => by have := prun_stop (show pstep cmt 62 ⟨a, b, false, false, false, false, false, false, g, true, ad⟩ = .stop ⟨a, b, false, false, false, false, false, false, g, true, false⟩ 0 by simp [pstep, isSpN, isSepN, PS.qd]) (HR0.out h); simpa using this), ⟨rfl, rfl⟩, rfl, rfl, rfl, rfl, rfl, rfl, rfl, rfl, rfl, rfl⟩
                      | false =>
                      cases sub with
                      | true =>
                        go_wp2_with fail
                        refine Met.intro ?_
                        go_step
                        exact ⟨a, b, false, false, false, false, false, false, g, false, false, ga, ca, gb, cb, q, 5 * n, true, bt, (n : Int), HPM.out, HBW.out, (by omega), (by omega), HXA.out, (by omega), (fun h => by have := (HSL.out h).1; cases this), ⟨rfl, rfl⟩, rfl, rfl, rfl, rfl, rfl, rfl, rfl, rfl, rfl, rfl⟩
                      | false =>
                      go_upto_block 3 with fail
                      obtain ⟨D, hD⟩ : ∃ D, digs b = D := ⟨_, rfl⟩
                      have HDG := Lib.hid hD
                      clear hD
                      refine wp_cut (fun a1 wx => w1 = wx ∧ Fr 419 a1 ∧ Sl a1 0 = .pointer (some ⟨P, 0, none⟩) ∧ Sl a1 1 = .string s ∧ Sl a1 6 = .pointer (some ⟨L.A, 0, none⟩) ∧ Sl a1 7 = .pointer (some ⟨L.V, 0, none⟩) ∧ Sl a1 8 = .bool false ∧ Sl a1 9 = .bool false ∧ Sl a1 10 = .bool false ∧ Sl a1 11 = .bool false ∧ Sl a1 12 = .bool false ∧ Sl a1 13 = .bool false ∧ Sl a1 14 = bt ∧ Sl a1 15 = .int .i64 (-1) ∧ Sl a1 16 = .pointer (some ⟨L.G, 0, none⟩) ∧ Sl a1 17 = .pointer (some ⟨L.T, 0, none⟩) ∧ Sl a1 18 = .pointer (some ⟨L.S, 0, none⟩) ∧ Sl a1 19 = .bool false ∧ Sl a1 20 = .int .i64 (sk : Int) ∧ Sl a1 21 = gv ∧ Sl a1 22 = .func (.func 38) #[] #[.pointer (some ⟨L.G, 0, none⟩), .pointer (some ⟨L.V, 0, none⟩), .pointer (some ⟨L.A, 0, none⟩), .pointer (some ⟨L.T, 0, none⟩), .pointer (some ⟨L.S, 0, none⟩)] ∧ Sl a1 23 = .int .i64 (n : Int) ∧ Sl a1 27 = .bool D ∧ Sl a1 50 = .pointer (some ⟨L.I, 0, none⟩)) ?rest3 ?first3
                      case first3 =>
                        intro J3 K3 hJ3 hK3
                        go_wp2_with fail
                        refine wp_loop_ghost_k (fun c2 a1 wx => ∃ j : Nat, j ≤ b.length ∧ c2 = b.length - j ∧ w1 = wx ∧ Hid (digs (b.drop j) = D) ∧ Fr 419 a1 ∧ Sl a1 0 = .pointer (some ⟨P, 0, none⟩) ∧ Sl a1 1 = .string s ∧ Sl a1 6 = .pointer (some ⟨L.A, 0, none⟩) ∧ Sl a1 7 = .pointer (some ⟨L.V, 0, none⟩) ∧ Sl a1 8 = .bool false ∧ Sl a1 9 = .bool false ∧ Sl a1 10 = .bool false ∧ Sl a1 11 = .bool false ∧ Sl a1 12 = .bool false ∧ Sl a1 13 = .bool false ∧ Sl a1 14 = bt ∧ Sl a1 15 = .int .i64 (-1) ∧ Sl a1 16 = .pointer (some ⟨L.G, 0, none⟩) ∧ Sl a1 17 = .pointer (some ⟨L.T, 0, none⟩) ∧ Sl a1 18 = .pointer (some ⟨L.S, 0, none⟩) ∧ Sl a1 19 = .bool false ∧ Sl a1 20 = .int .i64 (sk : Int) ∧ Sl a1 21 = gv ∧ Sl a1 22 = .func (.func 38) #[] #[.pointer (some ⟨L.G, 0, none⟩), .pointer (some ⟨L.V, 0, none⟩), .pointer (some ⟨L.A, 0, none⟩), .pointer (some ⟨L.T, 0, none⟩), .pointer (some ⟨L.S, 0, none⟩)] ∧ Sl a1 23 = .int .i64 (n : Int) ∧ Sl a1 27 = .bool true ∧ Sl a1 50 = .pointer (some ⟨L.I, 0, none⟩) ∧ Sl a1 263 = .slice (some ⟨gb, 0, none⟩) b.length cb ∧ Sl a1 264 = .int .i64 (b.length : Int) ∧ Sl a1 265 = .int .i64 (j : Int)) b.length ?at3 ?rd3
                        case at3 => exact ⟨0, Nat.zero_le _, by omega, rfl, Lib.hid HDG.out, ⟨rfl, rfl⟩, rfl, rfl, rfl, rfl, rfl, rfl, rfl, rfl, rfl, rfl, rfl, rfl, rfl, rfl, rfl, rfl, rfl, rfl, rfl, rfl, rfl, rfl, rfl, rfl, rfl⟩
                        case rd3 =>
                          intro c2 a1 wx hinv J4 K4 hJ4 hK4
                          obtain ⟨j, hj, hc2, rfl, HJD, hFr, hS0, hS1, hS6, hS7, hS8, hS9, hS10, hS11, hS12, hS13, hS14, hS15, hS16, hS17, hS18, hS19, hS20, hS21, hS22, hS23, hS27, hS50, hS263, hS264, hS265⟩ := hinv
                          obtain ⟨f, hf, hA⟩ := lit419 a1 hFr
                          rw [hf] at hS0 hS1 hS6 hS7 hS8 hS9 hS10 hS11 hS12 hS13 hS14 hS15 hS16 hS17 hS18 hS19 hS20 hS21 hS22 hS23 hS27 hS50 hS263 hS264 hS265
                          rw [hS0, hS1, hS6, hS7, hS8, hS9, hS10, hS11, hS12, hS13, hS14, hS15, hS16, hS17, hS18, hS19, hS20, hS21, hS22, hS23, hS27, hS50, hS263, hS264, hS265] at hA
                          clear hf hFr hS0 hS1 hS6 hS7 hS8 hS9 hS10 hS11 hS12 hS13 hS14 hS15 hS16 hS17 hS18 hS19 hS20 hS21 hS22 hS23 hS27 hS50 hS263 hS264 hS265
                          subst hA
                          have HC2 := Lib.hid hc2
                          clear hc2
                          by_cases hjb : j < b.length
                          · obtain ⟨y, hy⟩ : ∃ y, b[j]? = some y := ⟨_, List.getElem?_eq_getElem hjb⟩
                            have hcell : w1.cell? ⟨gb, j, none⟩ = some (.int .u8 (y.toNat : Int)) := by
                              have := HPM.out.oV.cells (g := gb) rfl j (.int .u8 (y.toNat : Int)) (by simp [Lib.byteCells, hy])
                              rwa [Addr.add_lit, Nat.zero_add] at this
                            have HDR := Lib.hid (show b.drop j = y :: b.drop (j + 1) by obtain ⟨_, h2⟩ := List.getElem?_eq_some_iff.1 hy; rw [List.drop_eq_getElem_cons hjb, h2])
                            have hjz : (j : Int) < (b.length : Int) := by omega
                            clear hy
                            by_cases hy1 : y.toNat < 48
                            · have hy1z : (y.toNat : Int) < 48 := by omega
                              obtain rfl : D = false := by rw [← HJD.out, HDR.out]; simp [digs]; omega
                              clear hy1
                              go_wp2_with fail
                              refine Met.intro ?_
                              go_step
                              exact ⟨rfl, ⟨rfl, rfl⟩, rfl, rfl, rfl, rfl, rfl, rfl, rfl, rfl, rfl, rfl, rfl, rfl, rfl, rfl, rfl, rfl, rfl, rfl, rfl, rfl, rfl, rfl⟩
                            by_cases hy2 : 57 < y.toNat
                            · have hy2z : (57 : Int) < (y.toNat : Int) := by omega
                              obtain rfl : D = false := by rw [← HJD.out, HDR.out]; simp [digs]; omega
                              clear hy2
                              go_wp2_with fail
                              refine Met.intro ?_
                              go_step
                              exact ⟨rfl, ⟨rfl, rfl⟩, rfl, rfl, rfl, rfl, rfl, rfl, rfl, rfl, rfl, rfl, rfl, rfl, rfl, rfl, rfl, rfl, rfl, rfl, rfl, rfl, rfl, rfl⟩
                            have hy1z : ¬ (y.toNat : Int) < 48 := by omega
                            have hy2z : ¬ (57 : Int) < (y.toNat : Int) := by omega
                            have HJ2 := Lib.hid (show digs (b.drop (j + 1)) = D by have h := HJD.out; rw [HDR.out] at h; rw [← h]; have h1 : 48 ≤ y.toNat := (by omega); have h2 : y.toNat ≤ 57 := (by omega); simp [digs, h1, h2])
                            clear hy1 hy2
                            go_wp2_with fail
                            refine Handed.intro (b.length - (j + 1)) (by have := HC2.out; omega) ?_
                            go_step
                            exact ⟨j + 1, by omega, rfl, rfl, HJ2, ⟨rfl, rfl⟩, rfl, rfl, rfl, rfl, rfl, rfl, rfl, rfl, rfl, rfl, rfl, rfl, rfl, rfl, rfl, rfl, rfl, rfl, rfl, rfl, rfl, rfl, rfl, rfl, (congrArg (Value.int .i64) (show (j : Int) + 1 = ((j + 1 : Nat) : Int) by omega))⟩
                          · have hjz : ¬ (j : Int) < (b.length : Int) := by omega
                            obtain rfl : D = true := by rw [← HJD.out, List.drop_eq_nil_of_le (by omega)]; rfl
                            go_wp2_with fail
                            refine Met.intro ?_
                            go_step
                            exact ⟨rfl, ⟨rfl, rfl⟩, rfl, rfl, rfl, rfl, rfl, rfl, rfl, rfl, rfl, rfl, rfl, rfl, rfl, rfl, rfl, rfl, rfl, rfl, rfl, rfl, rfl, rfl⟩
                      case rest3 =>
                      intro a1 wx hcut
                      obtain ⟨rfl, hFr, hS0, hS1, hS6, hS7, hS8, hS9, hS10, hS11, hS12, hS13, hS14, hS15, hS16, hS17, hS18, hS19, hS20, hS21, hS22, hS23, hS27, hS50⟩ := hcut
                      obtain ⟨f, hf, hA⟩ := lit419 a1 hFr
                      rw [hf] at hS0 hS1 hS6 hS7 hS8 hS9 hS10 hS11 hS12 hS13 hS14 hS15 hS16 hS17 hS18 hS19 hS20 hS21 hS22 hS23 hS27 hS50
                      rw [hS0, hS1, hS6, hS7, hS8, hS9, hS10, hS11, hS12, hS13, hS14, hS15, hS16, hS17, hS18, hS19, hS20, hS21, hS22, hS23, hS27, hS50] at hA
                      clear hf hFr hS0 hS1 hS6 hS7 hS8 hS9 hS10 hS11 hS12 hS13 hS14 hS15 hS16 hS17 hS18 hS19 hS20 hS21 hS22 hS23 hS27 hS50
                      subst hA
                      have hbz : (b.length : Int) ≤ 1099511627776 := by omega
                      cases D with
                      | true =>
                        go_wp2_with fail
                        refine Met.intro ?_
                        go_step
                        exact ⟨a, b, false, false, false, false, false, false, 0, false, false, ga, ca, gb, cb, q, 5 * n, false, bt, ((n : Int) - (b.length : Int)), (HPM.out.setG 0), (HBW.out.setCell L.hG _), (by omega), (by omega), HXA.out, (by omega), (fun h => prun_stop (show pstep cmt 62 ⟨a, b, false, false, false, false, false, false, g, false, ad⟩ = .stop ⟨a, b, false, false, false, false, false, false, 0, false, false⟩ b.length by simp [pstep, isSpN, isSepN, PS.qd, HB0.out, HDG.out]) (HR0.out h)), ⟨rfl, rfl⟩, rfl, rfl, rfl, rfl, rfl, rfl, rfl, rfl, rfl, rfl⟩
                      | false =>
                      go_wp2_with fail
                      refine Met.intro ?_
                      go_step
                      exact ⟨a, b, false, false, false, false, false, false, g, false, false, ga, ca, gb, cb, q, 5 * n, false, bt, (n : Int), HPM.out, HBW.out, (by omega), (by omega), HXA.out, (by omega), (fun h => by have := prun_stop (show pstep cmt 62 ⟨a, b, false, false, false, false, false, false, g, false, ad⟩ = .stop ⟨a, b, false, false, false, false, false, false, g, false, false⟩ 0 by simp [pstep, isSpN, isSepN, PS.qd, HDG.out]) (HR0.out h); simpa using this), ⟨rfl, rfl⟩, rfl, rfl, rfl, rfl, rfl, rfl, rfl, rfl, rfl, rfl⟩
          have e62 : ((R : Int) == 62) = false := by rw [beq_eq_false_iff_ne]; omega
          have H62 := Lib.hid h62
          clear h62
          by_cases h36 : R = 36
          · as_aux_lemma =>
              subst h36
              have cP0 : w1.cell? ⟨P, 0, none⟩ = some (.bool env) := by simp [World.cell?, HP1.out]
              cases env with
              | false =>
                go_wp2_with fail
                refine Met.intro ?_
                go_step
                exact ⟨_, _, HPM.out, HBW.out, (fun h => prun_go (by simp [pstep, isSpN, isSepN, PS.qd]) (HR0.out h)), ⟨rfl, rfl⟩, rfl, rfl, rfl, rfl, rfl, rfl, rfl, rfl, rfl, rfl, rfl, rfl, rfl, rfl, rfl, rfl, rfl, rfl, rfl, rfl, rfl, rfl⟩
              | true =>
              obtain rfl : slp = true := by cases slp with | true => rfl | false => exact absurd (List.mem_cons_self ..) (HD0.out rfl rfl)
              obtain ⟨hpe, O, rfl, hO, hOl⟩ := HENV.out rfl
              obtain ⟨nm, kk, okb, hkk, hcall⟩ := hpe (s.extract (pos + 1) s.size) w1 (by have := HBW.out; rwa [HLB.out] at this) (by simp; omega)
              have HCALL := Lib.hid hcall
              clear hcall hpe
              have hps1 : pos + 1 ≤ s.size := by omega
              cases sq with
              | true =>
                go_wp2_with fail
                refine Met.intro ?_
                go_step
                exact ⟨_, _, HPM.out, HBW.out, (fun h => by cases h), ⟨rfl, rfl⟩, rfl, rfl, rfl, rfl, rfl, rfl, rfl, rfl, rfl, rfl, rfl, rfl, rfl, rfl, rfl, rfl, rfl, rfl, rfl, rfl, rfl, rfl⟩
              | false =>
                cases bq with
                | true =>
                  go_wp2_with fail
                  refine Met.intro ?_
                  go_step
                  exact ⟨_, _, HPM.out, HBW.out, (fun h => by cases h), ⟨rfl, rfl⟩, rfl, rfl, rfl, rfl, rfl, rfl, rfl, rfl, rfl, rfl, rfl, rfl, rfl, rfl, rfl, rfl, rfl, rfl, rfl, rfl, rfl, rfl⟩
                | false =>
                  cases dl with
                  | true =>
                    go_wp2_with fail
                    refine Met.intro ?_
                    go_step
                    exact ⟨_, _, HPM.out, HBW.out, (fun h => by cases h), ⟨rfl, rfl⟩, rfl, rfl, rfl, rfl, rfl, rfl, rfl, rfl, rfl, rfl, rfl, rfl, rfl, rfl, rfl, rfl, rfl, rfl, rfl, rfl, rfl, rfl⟩
                  | false =>
                    go_upto_if 310 with (go_at_call 41; (with_reducible refine HCALL.out.mono ?_); rintro e w2 ⟨rfl, hb2⟩; dsimp only)
                    have hpm := HPM.out.grow (⟨hb2.os, hb2.tape, hb2.output, hb2.size, fun k hk _ => hb2.block k hk⟩ : w1.grownBy w2 none)
                    have hbw := HBW.out.trans (hb2.mono HPM.out.lB)
                    clear hb2 HCALL cP0
                    clear HPM HBW fG fV fT fS cG cV cT cS
                    have fG := free_of_one hpm.lG
                    have fV := free_of_one hpm.lV
                    have fT := free_of_one hpm.lT
                    have fS := free_of_one hpm.lS
                    have cG := cell_of_one hpm.lG
                    have cV := cell_of_one hpm.lV
                    have cT := cell_of_one hpm.lT
                    have cS := cell_of_one hpm.lS
                    have HPM := Lib.hid hpm
                    have HBW := Lib.hid hbw
                    clear hpm hbw
                    cases okb with
                    | false =>
                      go_wp2_with fail
                      refine Met.intro ?_
                      go_step
                      exact ⟨_, _, HPM.out, HBW.out, (fun h => by cases h), ⟨rfl, rfl⟩, rfl, rfl, rfl, rfl, rfl, rfl, rfl, rfl, rfl, rfl, rfl, rfl, rfl, rfl, rfl, rfl, rfl, rfl, rfl, rfl, rfl, rfl⟩
                    | true =>
                    have cO : w2.cell? ⟨O, 2, none⟩ = some (.slice none 0 0) := (HBW.out.cell (p := ⟨O, 2, none⟩) (by rw [HLB.out]; exact hOl)).trans hO
                    obtain ⟨V0, hV0⟩ : ∃ V0 : ByteArray, V0 = ⟨#[]⟩ := ⟨_, rfl⟩
                    have HGE := Lib.hid (show Calls Tryd.prog 36 #[.string nm, .pointer (some ⟨O, 0, none⟩)] w2 (fun e w' => e = .returned (.string V0) ∧ w2 = w') by rw [hV0]; exact getenv_any O nm w2 cO)
                    have HE0 := Lib.hid (show ([] : List UInt8).length ≤ 4 ∧ V0.size = ([] : List UInt8).length ∧ Lib.strCells V0 = Lib.byteCells [] from ⟨by decide, by rw [hV0]; rfl, by rw [hV0]; rfl⟩)
                    clear cO hO hV0
                    go_upto_if 318 with (go_at_call 36; (with_reducible refine HGE.out.mono ?_); rintro e w9 ⟨rfl, rfl⟩; dsimp only)
                    clear HGE
                    cases dq with
                    | true =>
                      have HE := HE0
                      go_wp2_with (at_builtin; go_loud (refine wpList_app_str rfl _ _ 56 9 rfl L.B 5 j0 Tryd.underlying56 Tryd.underlying9 HJ.out.1 HJ.out.2.1 HJ.out.2.2.1 HJ.out.2.2.2 _ _ _ rfl HPM.out.oV (V0) rfl ?h29a ?h29b ?_))
                      case h29a => have := HE.out.1; have := HE.out.2.1; (try simp only [List.length_append, List.length_cons, List.length_nil]); omega
                      case h29b => exact HPM.out.lB
                      intro v1 w3a ho hg hat
                      rw [HE.out.2.1, HE.out.2.2] at ho
                      obtain ⟨g3, c3, rfl, hV1, hpm⟩ := HPM.out.app hg ho hat
                      have hbw := (HBW.out.grown hg HPM.out.lB (fun k hk => (HPM.out.oV.lt k hk).1)).setCell (p := ⟨L.V, 0, none⟩) L.hV (.slice (some ⟨g3, 0, none⟩) ((b).length + (([] : List UInt8)).length) c3)
                      have fV1 := free_of_one hV1
                      have cV1 := cell_of_one hV1
                      clear hV1 ho hg hat
                      clear HPM HBW fG fV fT fS cG cV cT cS
                      go_upto_region 119 with fail
                      clear fV1 cV1
                      generalize (w3a.setCell ⟨L.V, 0, none⟩ (.slice (some ⟨g3, 0, none⟩) ((b).length + (([] : List UInt8)).length) c3)) = w3 at hpm hbw ⊢
                      obtain ⟨b3, hb3⟩ : ∃ x, b ++ ([] : List UInt8) = x := ⟨_, rfl⟩
                      have hl3 : b3.length ≤ b.length + 4 := by rw [← hb3, List.length_append]; have := HE.out.1; simp; try omega
                      rw [hb3] at hpm
                      have HB3 := Lib.hid hb3
                      clear hb3
                      have fG := free_of_one hpm.lG
                      have fV := free_of_one hpm.lV
                      have fT := free_of_one hpm.lT
                      have fS := free_of_one hpm.lS
                      have cG := cell_of_one hpm.lG
                      have cV := cell_of_one hpm.lV
                      have cT := cell_of_one hpm.lT
                      have cS := cell_of_one hpm.lS
                      have HPM := Lib.hid hpm
                      have HBW := Lib.hid hbw
                      clear hpm hbw
                      go_wp2_with fail
                      refine Met.intro ?_
                      go_step
                      exact ⟨a, b3, false, true, false, false, false, false, g, tq, false, ga, ca, g3, c3, q, n + 1, pos + 1 + kk, true, bt, (HPM.out.setS true).more (by omega), HBW.out.setCell L.hS _, (by omega), (by omega), (by omega), (by omega), HXA.out, hg2, (fun h => by cases h), (by first | assumption | omega), (fun h => by cases h), (fun h h' => by rw [HRE.out]; exact fun m => HD0.out h (by first | exact h' | trivial) (List.mem_cons_of_mem _ m)), rfl, ⟨rfl, rfl⟩, rfl, rfl, rfl, rfl, rfl, rfl, rfl, rfl, rfl, rfl, rfl, rfl, rfl, rfl, rfl, rfl, rfl, rfl, rfl, (congrArg (Value.int .i64) (show (n : Int) = ((n + 1 : Nat) : Int) - 1 by omega)), rfl⟩
                    | false =>
                    go_upto_block 5 with fail
                    have hit := World.iter_heap w2 V0 0
                    have hpm := HPM.out.alloc (.stringIter V0 0)
                    have hbw := HBW.out.alloc HPM.out.lB (.stringIter V0 0)
                    clear HPM HBW fG fV fT fS cG cV cT cS
                    generalize hbI : w2.heap.size = bI at hit ⊢
                    clear hbI
                    change PM L s (5 * n) q a ga ca b gb cb g tq sub bt (w2.iter V0 0) at hpm
                    change Below L.B w (w2.iter V0 0) at hbw
                    generalize (w2.iter V0 0) = w3 at hit hpm hbw ⊢
                    have fG := free_of_one hpm.lG
                    have fV := free_of_one hpm.lV
                    have fT := free_of_one hpm.lT
                    have fS := free_of_one hpm.lS
                    have cG := cell_of_one hpm.lG
                    have cV := cell_of_one hpm.lV
                    have cT := cell_of_one hpm.lT
                    have cS := cell_of_one hpm.lS
                    have HPM := Lib.hid hpm
                    have HBW := Lib.hid hbw
                    clear hpm hbw
                    refine wp_cut (fun a1 wx => w3 = wx ∧ Fr 419 a1 ∧ Sl a1 0 = .pointer (some ⟨P, 0, none⟩) ∧ Sl a1 1 = .string s ∧ Sl a1 6 = .pointer (some ⟨L.A, 0, none⟩) ∧ Sl a1 7 = .pointer (some ⟨L.V, 0, none⟩) ∧ Sl a1 8 = .bool false ∧ Sl a1 9 = .bool false ∧ Sl a1 10 = .bool false ∧ Sl a1 11 = .bool false ∧ Sl a1 12 = .bool false ∧ Sl a1 13 = .bool false ∧ Sl a1 14 = bt ∧ Sl a1 15 = .int .i64 (-1) ∧ Sl a1 16 = .pointer (some ⟨L.G, 0, none⟩) ∧ Sl a1 17 = .pointer (some ⟨L.T, 0, none⟩) ∧ Sl a1 18 = .pointer (some ⟨L.S, 0, none⟩) ∧ Sl a1 19 = .bool false ∧ Sl a1 20 = .int .i64 ((pos : Int) + 1 + (kk : Int)) ∧ Sl a1 21 = .func (.func 36) #[] #[.pointer (some ⟨O, 0, none⟩)] ∧ Sl a1 22 = .func (.func 38) #[] #[.pointer (some ⟨L.G, 0, none⟩), .pointer (some ⟨L.V, 0, none⟩), .pointer (some ⟨L.A, 0, none⟩), .pointer (some ⟨L.T, 0, none⟩), .pointer (some ⟨L.S, 0, none⟩)] ∧ Sl a1 23 = .int .i64 (n : Int) ∧ Sl a1 50 = .pointer (some ⟨L.I, 0, none⟩)) ?rest5 ?first5
                    case first5 =>
                      intro J3 K3 hJ3 hK3
                      go_wp2_with fail
                      refine wp_loop_ghost_k (fun c2 a1 wx => w3 = wx ∧ Fr 419 a1 ∧ Sl a1 0 = .pointer (some ⟨P, 0, none⟩) ∧ Sl a1 1 = .string s ∧ Sl a1 6 = .pointer (some ⟨L.A, 0, none⟩) ∧ Sl a1 7 = .pointer (some ⟨L.V, 0, none⟩) ∧ Sl a1 8 = .bool false ∧ Sl a1 9 = .bool false ∧ Sl a1 10 = .bool false ∧ Sl a1 11 = .bool false ∧ Sl a1 12 = .bool false ∧ Sl a1 13 = .bool false ∧ Sl a1 14 = bt ∧ Sl a1 15 = .int .i64 (-1) ∧ Sl a1 16 = .pointer (some ⟨L.G, 0, none⟩) ∧ Sl a1 17 = .pointer (some ⟨L.T, 0, none⟩) ∧ Sl a1 18 = .pointer (some ⟨L.S, 0, none⟩) ∧ Sl a1 19 = .bool false ∧ Sl a1 20 = .int .i64 ((pos : Int) + 1 + (kk : Int)) ∧ Sl a1 21 = .func (.func 36) #[] #[.pointer (some ⟨O, 0, none⟩)] ∧ Sl a1 22 = .func (.func 38) #[] #[.pointer (some ⟨L.G, 0, none⟩), .pointer (some ⟨L.V, 0, none⟩), .pointer (some ⟨L.A, 0, none⟩), .pointer (some ⟨L.T, 0, none⟩), .pointer (some ⟨L.S, 0, none⟩)] ∧ Sl a1 23 = .int .i64 (n : Int) ∧ Sl a1 50 = .pointer (some ⟨L.I, 0, none⟩) ∧ Sl a1 323 = .pointer (some ⟨bI, 0, none⟩)) 0 ?at5 ?rd5
                      case at5 => exact ⟨rfl, ⟨rfl, rfl⟩, rfl, rfl, rfl, rfl, rfl, rfl, rfl, rfl, rfl, rfl, rfl, rfl, rfl, rfl, rfl, rfl, rfl, rfl, rfl, rfl, rfl, rfl⟩
                      case rd5 =>
                        intro c2 a1 wx hinv J4 K4 hJ4 hK4
                        obtain ⟨rfl, hFr, hS0, hS1, hS6, hS7, hS8, hS9, hS10, hS11, hS12, hS13, hS14, hS15, hS16, hS17, hS18, hS19, hS20, hS21, hS22, hS23, hS50, hS323⟩ := hinv
                        obtain ⟨f, hf, hA⟩ := lit419 a1 hFr
                        rw [hf] at hS0 hS1 hS6 hS7 hS8 hS9 hS10 hS11 hS12 hS13 hS14 hS15 hS16 hS17 hS18 hS19 hS20 hS21 hS22 hS23 hS50 hS323
                        rw [hS0, hS1, hS6, hS7, hS8, hS9, hS10, hS11, hS12, hS13, hS14, hS15, hS16, hS17, hS18, hS19, hS20, hS21, hS22, hS23, hS50, hS323] at hA
                        clear hf hFr hS0 hS1 hS6 hS7 hS8 hS9 hS10 hS11 hS12 hS13 hS14 hS15 hS16 hS17 hS18 hS19 hS20 hS21 hS22 hS23 hS50 hS323
                        subst hA
                        have hnx : ∀ ty, (Instr.next (.pointer (some ⟨bI, 0, none⟩)) true ty).run Tryd.prog w3 = _ := fun ty => Lib.run_next_end_at w3 bI V0 0 ty hit (by rw [HE0.out.2.1]; decide)
                        go_wp2_with fail
                        refine Met.intro ?_
                        go_step
                        exact ⟨rfl, ⟨rfl, rfl⟩, rfl, rfl, rfl, rfl, rfl, rfl, rfl, rfl, rfl, rfl, rfl, rfl, rfl, rfl, rfl, rfl, rfl, rfl, rfl, rfl, rfl⟩
                    case rest5 =>
                    intro a1 wx hcut
                    obtain ⟨rfl, hFr, hS0, hS1, hS6, hS7, hS8, hS9, hS10, hS11, hS12, hS13, hS14, hS15, hS16, hS17, hS18, hS19, hS20, hS21, hS22, hS23, hS50⟩ := hcut
                    obtain ⟨f, hf, hA⟩ := lit419 a1 hFr
                    rw [hf] at hS0 hS1 hS6 hS7 hS8 hS9 hS10 hS11 hS12 hS13 hS14 hS15 hS16 hS17 hS18 hS19 hS20 hS21 hS22 hS23 hS50
                    rw [hS0, hS1, hS6, hS7, hS8, hS9, hS10, hS11, hS12, hS13, hS14, hS15, hS16, hS17, hS18, hS19, hS20, hS21, hS22, hS23, hS50] at hA
                    clear hf hFr hS0 hS1 hS6 hS7 hS8 hS9 hS10 hS11 hS12 hS13 hS14 hS15 hS16 hS17 hS18 hS19 hS20 hS21 hS22 hS23 hS50
                    subst hA
                    clear hit
                    go_wp2_with fail
                    refine Met.intro ?_
                    go_step
                    exact ⟨a, b, false, false, false, false, false, false, g, tq, false, ga, ca, gb, cb, q, n + 1, pos + 1 + kk, true, bt, (HPM.out.setS true).more (by omega), HBW.out.setCell L.hS _, (by omega), (by omega), (by omega), (by omega), HXA.out, hg2, (fun h => by cases h), (by first | assumption | omega), (fun h => by cases h), (fun h h' => by rw [HRE.out]; exact fun m => HD0.out h (by first | exact h' | trivial) (List.mem_cons_of_mem _ m)), rfl, ⟨rfl, rfl⟩, rfl, rfl, rfl, rfl, rfl, rfl, rfl, rfl, rfl, rfl, rfl, rfl, rfl, rfl, rfl, rfl, rfl, rfl, rfl, (congrArg (Value.int .i64) (show (n : Int) = ((n + 1 : Nat) : Int) - 1 by omega)), rfl⟩
          have e36 : ((R : Int) == 36) = false := by rw [beq_eq_false_iff_ne]; omega
          have H36 := Lib.hid h36
          clear h36
          by_cases h35 : R = 35
          · as_aux_lemma =>
              subst h35
              have cP1 : w1.cell? ⟨P, 1, none⟩ = some (.bool cmt) := by simp [World.cell?, HP1.out]
              cases cmt with
              | false =>
                go_wp2_with fail
                refine Met.intro ?_
                go_step
                exact ⟨_, _, HPM.out, HBW.out, (fun h => prun_go (by simp [pstep, isSpN, isSepN, PS.qd]) (HR0.out h)), ⟨rfl, rfl⟩, rfl, rfl, rfl, rfl, rfl, rfl, rfl, rfl, rfl, rfl, rfl, rfl, rfl, rfl, rfl, rfl, rfl, rfl, rfl, rfl, rfl, rfl⟩
              | true =>
              by_cases hg0 : g = 0
              · subst hg0
                cases sub with
                | true =>
                  go_wp2_with fail
                  refine Met.intro ?_
                  go_step
                  exact ⟨_, _, HPM.out, HBW.out, (fun h => by have := (HSL.out h).1; cases this), ⟨rfl, rfl⟩, rfl, rfl, rfl, rfl, rfl, rfl, rfl, rfl, rfl, rfl, rfl, rfl, rfl, rfl, rfl, rfl, rfl, rfl, rfl, rfl, rfl, rfl⟩
                | false =>
                cases sq with
                | true =>
                  go_wp2_with fail
                  refine Met.intro ?_
                  go_step
                  exact ⟨_, _, HPM.out, HBW.out, (fun h => prun_go (by simp [pstep, isSpN, isSepN, PS.qd]) (HR0.out h)), ⟨rfl, rfl⟩, rfl, rfl, rfl, rfl, rfl, rfl, rfl, rfl, rfl, rfl, rfl, rfl, rfl, rfl, rfl, rfl, rfl, rfl, rfl, rfl, rfl, rfl⟩
                | false =>
                  cases dq with
                  | true =>
                    go_wp2_with fail
                    refine Met.intro ?_
                    go_step
                    exact ⟨_, _, HPM.out, HBW.out, (fun h => prun_go (by simp [pstep, isSpN, isSepN, PS.qd]) (HR0.out h)), ⟨rfl, rfl⟩, rfl, rfl, rfl, rfl, rfl, rfl, rfl, rfl, rfl, rfl, rfl, rfl, rfl, rfl, rfl, rfl, rfl, rfl, rfl, rfl, rfl, rfl⟩
                  | false =>
                    cases bq with
                    | true =>
                      go_wp2_with fail
                      refine Met.intro ?_
                      go_step
                      exact ⟨_, _, HPM.out, HBW.out, (fun h => prun_go (by simp [pstep, isSpN, isSepN, PS.qd]) (HR0.out h)), ⟨rfl, rfl⟩, rfl, rfl, rfl, rfl, rfl, rfl, rfl, rfl, rfl, rfl, rfl, rfl, rfl, rfl, rfl, rfl, rfl, rfl, rfl, rfl, rfl, rfl⟩
                    | false =>
                      cases dl with
                      | true =>
                        go_wp2_with fail
                        refine Met.intro ?_
                        go_step
                        exact ⟨_, _, HPM.out, HBW.out, (fun h => prun_go (by simp [pstep, isSpN, isSepN, PS.qd]) (HR0.out h)), ⟨rfl, rfl⟩, rfl, rfl, rfl, rfl, rfl, rfl, rfl, rfl, rfl, rfl, rfl, rfl, rfl, rfl, rfl, rfl, rfl, rfl, rfl, rfl, rfl, rfl⟩
                      | false =>
                        go_wp2_with fail
                        refine Met.intro ?_
                        go_step
                        exact ⟨a, b, false, false, false, false, false, true, 0, tq, false, ga, ca, gb, cb, q, n + 1, sk, false, bt, HPM.out.more (by omega), HBW.out, (by omega), (by omega), (by omega), (by omega), HXA.out, (by omega), (fun h => ⟨rfl, (HSL.out h).2⟩), (by first | assumption | omega), (fun h => by rw [HRE.out]; exact prun_go (by simp [pstep, isSpN, isSepN, PS.qd]) (HR0.out h)), (fun h h' => by rw [HRE.out]; exact fun m => HD0.out h (by first | exact h' | trivial) (List.mem_cons_of_mem _ m)), rfl, ⟨rfl, rfl⟩, rfl, rfl, rfl, rfl, rfl, rfl, rfl, rfl, rfl, rfl, rfl, rfl, rfl, rfl, rfl, rfl, rfl, rfl, rfl, (congrArg (Value.int .i64) (show (n : Int) = ((n + 1 : Nat) : Int) - 1 by omega)), rfl⟩
              have hgz : ((g : Int) == 0) = false := by rw [beq_eq_false_iff_ne]; omega
              have HG0 := Lib.hid (show (g == 0) = false by rw [beq_eq_false_iff_ne]; exact hg0)
              clear hg0
              go_wp2_with fail
              refine Met.intro ?_
              go_step
              exact ⟨_, _, HPM.out, HBW.out, (fun h => prun_go (by simp [pstep, isSpN, isSepN, PS.qd, HG0.out]) (HR0.out h)), ⟨rfl, rfl⟩, rfl, rfl, rfl, rfl, rfl, rfl, rfl, rfl, rfl, rfl, rfl, rfl, rfl, rfl, rfl, rfl, rfl, rfl, rfl, rfl, rfl, rfl⟩
          have e35 : ((R : Int) == 35) = false := by rw [beq_eq_false_iff_ne]; omega
          have H35 := Lib.hid h35
          clear h35
          have HSEP := Lib.hid (show isSepN R = false by have := H59.out; have := H38.out; have := H124.out; have := H60.out; have := H62.out; unfold isSepN; simp; omega)
          go_wp2_with fail
          refine Met.intro ?_
          go_step
          exact ⟨_, _, HPM.out, HBW.out, (fun h => prun_go (by simp [pstep, HSP.out, HSEP.out, H92.out, H96.out, H41.out, H40.out, H34.out, H39.out, H35.out]) (HR0.out h)), ⟨rfl, rfl⟩, rfl, rfl, rfl, rfl, rfl, rfl, rfl, rfl, rfl, rfl, rfl, rfl, rfl, rfl, rfl, rfl, rfl, rfl, rfl, rfl, rfl, rfl⟩
        case rest2 =>
          as_aux_lemma =>
            intro a1 wx hcut
            clear HPM HBW HR0 fG fV fT fS cG cV cT cS
            obtain ⟨bq, bt, hpm, hbw, hrun, hFr, hS0, hS1, hS6, hS7, hS8, hS9, hS10, hS11, hS12, hS13, hS14, hS15, hS16, hS17, hS18, hS19, hS20, hS21, hS22, hS23, hS25, hS50⟩ := hcut
            obtain ⟨f, hf, hA⟩ := lit419 a1 hFr
            rw [hf] at hS0 hS1 hS6 hS7 hS8 hS9 hS10 hS11 hS12 hS13 hS14 hS15 hS16 hS17 hS18 hS19 hS20 hS21 hS22 hS23 hS25 hS50
            rw [hS0, hS1, hS6, hS7, hS8, hS9, hS10, hS11, hS12, hS13, hS14, hS15, hS16, hS17, hS18, hS19, hS20, hS21, hS22, hS23, hS25, hS50] at hA
            clear hf hFr hS0 hS1 hS6 hS7 hS8 hS9 hS10 hS11 hS12 hS13 hS14 hS15 hS16 hS17 hS18 hS19 hS20 hS21 hS22 hS23 hS25 hS50
            subst hA
            have HRUN := Lib.hid hrun
            clear hrun
            have fG := free_of_one hpm.lG
            have fV := free_of_one hpm.lV
            have fT := free_of_one hpm.lT
            have fS := free_of_one hpm.lS
            have cG := cell_of_one hpm.lG
            have cV := cell_of_one hpm.lV
            have cT := cell_of_one hpm.lT
            have cS := cell_of_one hpm.lS
            have HPM := Lib.hid hpm
            have HBW := Lib.hid hbw
            clear hpm hbw
            go_upto_region 124 with fail
            have hpm := HPM.out.setG 1
            have hbw := HBW.out.setCell (p := ⟨L.G, 0, none⟩) L.hG (.int .i64 1)
            clear HPM HBW fG fV fT fS cG cV cT cS
            generalize (wx.setCell ⟨L.G, 0, none⟩ (.int .i64 1)) = w2 at hpm hbw ⊢
            have fG := free_of_one hpm.lG
            have fV := free_of_one hpm.lV
            have fT := free_of_one hpm.lT
            have fS := free_of_one hpm.lS
            have cG := cell_of_one hpm.lG
            have cV := cell_of_one hpm.lV
            have cT := cell_of_one hpm.lT
            have cS := cell_of_one hpm.lS
            have HPM := Lib.hid hpm
            have HBW := Lib.hid hbw
            clear hpm hbw
            go_wp2_with (at_builtin; go_loud (refine wpList_app_str rfl _ _ 56 9 rfl L.B 5 j0 Tryd.underlying56 Tryd.underlying9 HJ.out.1 HJ.out.2.1 HJ.out.2.2.1 HJ.out.2.2.2 _ _ _ rfl HPM.out.oV (Utf8.encode (R : Int)) rfl ?h30a ?h30b ?_))
            case h30a => have := HE.out.1; have := HE.out.2.1; (try simp only [List.length_append, List.length_cons, List.length_nil]); omega
            case h30b => exact HPM.out.lB
            intro v1 w3a ho hg hat
            rw [HE.out.2.1, HE.out.2.2] at ho
            obtain ⟨g3, c3, rfl, hV1, hpm⟩ := HPM.out.app hg ho hat
            have hbw := (HBW.out.grown hg HPM.out.lB (fun k hk => (HPM.out.oV.lt k hk).1)).setCell (p := ⟨L.V, 0, none⟩) L.hV (.slice (some ⟨g3, 0, none⟩) ((b).length + (encN R).length) c3)
            have fV1 := free_of_one hV1
            have cV1 := cell_of_one hV1
            clear hV1 ho hg hat
            clear HPM HBW fG fV fT fS cG cV cT cS
            go_upto_region 125 with fail
            clear fV1 cV1
            generalize (w3a.setCell ⟨L.V, 0, none⟩ (.slice (some ⟨g3, 0, none⟩) ((b).length + (encN R).length) c3)) = w3 at hpm hbw ⊢
            obtain ⟨b3, hb3⟩ : ∃ x, b ++ encN R = x := ⟨_, rfl⟩
            have hl3 : b3.length ≤ b.length + 4 := by rw [← hb3, List.length_append]; have := HE.out.1; simp; try omega
            rw [hb3] at hpm
            have HB3 := Lib.hid hb3
            clear hb3
            have fG := free_of_one hpm.lG
            have fV := free_of_one hpm.lV
            have fT := free_of_one hpm.lT
            have fS := free_of_one hpm.lS
            have cG := cell_of_one hpm.lG
            have cV := cell_of_one hpm.lV
            have cT := cell_of_one hpm.lT
            have cS := cell_of_one hpm.lS
            have HPM := Lib.hid hpm
            have HBW := Lib.hid hbw
            clear hpm hbw
            cases bq with
            | true =>
              go_upto_region 126 with fail
              obtain ⟨nb5, xb5, hob5, hnb5⟩ := HPM.out.oB
              have HOB := Lib.hid hob5
              clear hob5
              go_wp2_with (at_builtin; go_loud (refine wpList_app_str rfl _ _ 56 9 rfl L.B 5 j0 Tryd.underlying56 Tryd.underlying9 HJ.out.1 HJ.out.2.1 HJ.out.2.2.1 HJ.out.2.2.2 _ _ _ rfl HOB.out (Utf8.encode (R : Int)) rfl ?h31a ?h31b ?_))
              case h31a => have := HE.out.1; have := HE.out.2.1; omega
              case h31b => exact HPM.out.lB
              intro v5 w5 ho hg hat
              have hpm := HPM.out.appB hg ho hat (m' := 5 * (n + 1)) (by have := HE.out.1; have := HE.out.2.1; omega)
              have hbw := HBW.out.grown hg HPM.out.lB (fun k hk => (HOB.out.lt k hk).1)
              clear ho hg hat HOB
              clear HPM HBW fG fV fT fS cG cV cT cS
              have fG := free_of_one hpm.lG
              have fV := free_of_one hpm.lV
              have fT := free_of_one hpm.lT
              have fS := free_of_one hpm.lS
              have cG := cell_of_one hpm.lG
              have cV := cell_of_one hpm.lV
              have cT := cell_of_one hpm.lT
              have cS := cell_of_one hpm.lS
              have HPM := Lib.hid hpm
              have HBW := Lib.hid hbw
              clear hpm hbw
              by_cases h36 : R = 36
              · subst h36
                cases sq with
                | true =>
                  go_wp2_with fail
                  refine Met.intro ?_
                  go_step
                  exact ⟨a, b3, false, dq, true, true, dl, false, 1, tq, false, ga, ca, g3, c3, q, n + 1, sk, sub, v5, HPM.out.more (by omega), HBW.out, (by omega), (by omega), (by omega), (by omega), HXA.out, (by omega), HSL.out, (by first | assumption | omega), (fun h => by rw [HRE.out, ← HB3.out]; have := HRUN.out h; simpa [PS.put] using this), (fun h h' => by rw [HRE.out]; exact fun m => HD0.out h (by first | exact h' | trivial) (List.mem_cons_of_mem _ m)), rfl, ⟨rfl, rfl⟩, rfl, rfl, rfl, rfl, rfl, rfl, rfl, rfl, rfl, rfl, rfl, rfl, rfl, rfl, rfl, rfl, rfl, rfl, rfl, (congrArg (Value.int .i64) (show (n : Int) = ((n + 1 : Nat) : Int) - 1 by omega)), rfl⟩
                | false =>
                cases dq with
                | true =>
                  go_wp2_with fail
                  refine Met.intro ?_
                  go_step
                  exact ⟨a, b3, false, true, false, true, dl, false, 1, tq, false, ga, ca, g3, c3, q, n + 1, sk, sub, v5, HPM.out.more (by omega), HBW.out, (by omega), (by omega), (by omega), (by omega), HXA.out, (by omega), HSL.out, (by first | assumption | omega), (fun h => by rw [HRE.out, ← HB3.out]; have := HRUN.out h; simpa [PS.put] using this), (fun h h' => by rw [HRE.out]; exact fun m => HD0.out h (by first | exact h' | trivial) (List.mem_cons_of_mem _ m)), rfl, ⟨rfl, rfl⟩, rfl, rfl, rfl, rfl, rfl, rfl, rfl, rfl, rfl, rfl, rfl, rfl, rfl, rfl, rfl, rfl, rfl, rfl, rfl, (congrArg (Value.int .i64) (show (n : Int) = ((n + 1 : Nat) : Int) - 1 by omega)), rfl⟩
                | false =>
                go_wp2_with fail
                refine Met.intro ?_
                go_step
                exact ⟨a, b3, false, false, false, true, dl, false, 1, tq, false, ga, ca, g3, c3, q, n + 1, sk, sub, v5, HPM.out.more (by omega), HBW.out, (by omega), (by omega), (by omega), (by omega), HXA.out, (by omega), HSL.out, (by first | assumption | omega), (fun h => by rw [HRE.out, ← HB3.out]; have := HRUN.out h; simpa [PS.put] using this), (fun h h' => by rw [HRE.out]; exact fun m => HD0.out h (by first | exact h' | trivial) (List.mem_cons_of_mem _ m)), rfl, ⟨rfl, rfl⟩, rfl, rfl, rfl, rfl, rfl, rfl, rfl, rfl, rfl, rfl, rfl, rfl, rfl, rfl, rfl, rfl, rfl, rfl, rfl, (congrArg (Value.int .i64) (show (n : Int) = ((n + 1 : Nat) : Int) - 1 by omega)), rfl⟩
              have e36 : ((R : Int) == 36) = false := by rw [beq_eq_false_iff_ne]; omega
              have H36 := Lib.hid h36
              clear h36
              go_wp2_with fail
              refine Met.intro ?_
              go_step
              exact ⟨a, b3, false, dq, sq, true, dl, false, 1, tq, false, ga, ca, g3, c3, q, n + 1, sk, sub, v5, HPM.out.more (by omega), HBW.out, (by omega), (by omega), (by omega), (by omega), HXA.out, (by omega), HSL.out, (by first | assumption | omega), (fun h => by rw [HRE.out, ← HB3.out]; have := HRUN.out h; have e : (R == 36) = false := (by rw [beq_eq_false_iff_ne]; exact H36.out); simpa [PS.put, e] using this), (fun h h' => by rw [HRE.out]; exact fun m => HD0.out h (by first | exact h' | trivial) (List.mem_cons_of_mem _ m)), rfl, ⟨rfl, rfl⟩, rfl, rfl, rfl, rfl, rfl, rfl, rfl, rfl, rfl, rfl, rfl, rfl, rfl, rfl, rfl, rfl, rfl, rfl, rfl, (congrArg (Value.int .i64) (show (n : Int) = ((n + 1 : Nat) : Int) - 1 by omega)), rfl⟩
            | false =>
            cases dl with
            | true =>
              go_upto_region 126 with fail
              obtain ⟨nb5, xb5, hob5, hnb5⟩ := HPM.out.oB
              have HOB := Lib.hid hob5
              clear hob5
              go_wp2_with (at_builtin; go_loud (refine wpList_app_str rfl _ _ 56 9 rfl L.B 5 j0 Tryd.underlying56 Tryd.underlying9 HJ.out.1 HJ.out.2.1 HJ.out.2.2.1 HJ.out.2.2.2 _ _ _ rfl HOB.out (Utf8.encode (R : Int)) rfl ?h32a ?h32b ?_))
              case h32a => have := HE.out.1; have := HE.out.2.1; omega
              case h32b => exact HPM.out.lB
              intro v5 w5 ho hg hat
              have hpm := HPM.out.appB hg ho hat (m' := 5 * (n + 1)) (by have := HE.out.1; have := HE.out.2.1; omega)
              have hbw := HBW.out.grown hg HPM.out.lB (fun k hk => (HOB.out.lt k hk).1)
              clear ho hg hat HOB
              clear HPM HBW fG fV fT fS cG cV cT cS
              have fG := free_of_one hpm.lG
              have fV := free_of_one hpm.lV
              have fT := free_of_one hpm.lT
              have fS := free_of_one hpm.lS
              have cG := cell_of_one hpm.lG
              have cV := cell_of_one hpm.lV
              have cT := cell_of_one hpm.lT
              have cS := cell_of_one hpm.lS
              have HPM := Lib.hid hpm
              have HBW := Lib.hid hbw
              clear hpm hbw
              by_cases h36 : R = 36
              · subst h36
                cases sq with
                | true =>
                  go_wp2_with fail
                  refine Met.intro ?_
                  go_step
                  exact ⟨a, b3, false, dq, true, false, true, false, 1, tq, false, ga, ca, g3, c3, q, n + 1, sk, sub, v5, HPM.out.more (by omega), HBW.out, (by omega), (by omega), (by omega), (by omega), HXA.out, (by omega), HSL.out, (by first | assumption | omega), (fun h => by rw [HRE.out, ← HB3.out]; have := HRUN.out h; simpa [PS.put] using this), (fun h h' => by rw [HRE.out]; exact fun m => HD0.out h (by first | exact h' | trivial) (List.mem_cons_of_mem _ m)), rfl, ⟨rfl, rfl⟩, rfl, rfl, rfl, rfl, rfl, rfl, rfl, rfl, rfl, rfl, rfl, rfl, rfl, rfl, rfl, rfl, rfl, rfl, rfl, (congrArg (Value.int .i64) (show (n : Int) = ((n + 1 : Nat) : Int) - 1 by omega)), rfl⟩
                | false =>
                cases dq with
                | true =>
                  go_wp2_with fail
                  refine Met.intro ?_
                  go_step
                  exact ⟨a, b3, false, true, false, false, true, false, 1, tq, false, ga, ca, g3, c3, q, n + 1, sk, sub, v5, HPM.out.more (by omega), HBW.out, (by omega), (by omega), (by omega), (by omega), HXA.out, (by omega), HSL.out, (by first | assumption | omega), (fun h => by rw [HRE.out, ← HB3.out]; have := HRUN.out h; simpa [PS.put] using this), (fun h h' => by rw [HRE.out]; exact fun m => HD0.out h (by first | exact h' | trivial) (List.mem_cons_of_mem _ m)), rfl, ⟨rfl, rfl⟩, rfl, rfl, rfl, rfl, rfl, rfl, rfl, rfl, rfl, rfl, rfl, rfl, rfl, rfl, rfl, rfl, rfl, rfl, rfl, (congrArg (Value.int .i64) (show (n : Int) = ((n + 1 : Nat) : Int) - 1 by omega)), rfl⟩
                | false =>
                go_wp2_with fail
                refine Met.intro ?_
                go_step
                exact ⟨a, b3, false, false, false, false, true, false, 1, tq, false, ga, ca, g3, c3, q, n + 1, sk, sub, v5, HPM.out.more (by omega), HBW.out, (by omega), (by omega), (by omega), (by omega), HXA.out, (by omega), HSL.out, (by first | assumption | omega), (fun h => by rw [HRE.out, ← HB3.out]; have := HRUN.out h; simpa [PS.put] using this), (fun h h' => by rw [HRE.out]; exact fun m => HD0.out h (by first | exact h' | trivial) (List.mem_cons_of_mem _ m)), rfl, ⟨rfl, rfl⟩, rfl, rfl, rfl, rfl, rfl, rfl, rfl, rfl, rfl, rfl, rfl, rfl, rfl, rfl, rfl, rfl, rfl, rfl, rfl, (congrArg (Value.int .i64) (show (n : Int) = ((n + 1 : Nat) : Int) - 1 by omega)), rfl⟩
              have e36 : ((R : Int) == 36) = false := by rw [beq_eq_false_iff_ne]; omega
              have H36 := Lib.hid h36
              clear h36
              go_wp2_with fail
              refine Met.intro ?_
              go_step
              exact ⟨a, b3, false, dq, sq, false, true, false, 1, tq, false, ga, ca, g3, c3, q, n + 1, sk, sub, v5, HPM.out.more (by omega), HBW.out, (by omega), (by omega), (by omega), (by omega), HXA.out, (by omega), HSL.out, (by first | assumption | omega), (fun h => by rw [HRE.out, ← HB3.out]; have := HRUN.out h; have e : (R == 36) = false := (by rw [beq_eq_false_iff_ne]; exact H36.out); simpa [PS.put, e] using this), (fun h h' => by rw [HRE.out]; exact fun m => HD0.out h (by first | exact h' | trivial) (List.mem_cons_of_mem _ m)), rfl, ⟨rfl, rfl⟩, rfl, rfl, rfl, rfl, rfl, rfl, rfl, rfl, rfl, rfl, rfl, rfl, rfl, rfl, rfl, rfl, rfl, rfl, rfl, (congrArg (Value.int .i64) (show (n : Int) = ((n + 1 : Nat) : Int) - 1 by omega)), rfl⟩
            | false =>
            by_cases h36 : R = 36
            · subst h36
              cases sq with
              | true =>
                go_wp2_with fail
                refine Met.intro ?_
                go_step
                exact ⟨a, b3, false, dq, true, false, false, false, 1, tq, false, ga, ca, g3, c3, q, n + 1, sk, sub, bt, HPM.out.more (by omega), HBW.out, (by omega), (by omega), (by omega), (by omega), HXA.out, (by omega), HSL.out, (by first | assumption | omega), (fun h => by rw [HRE.out, ← HB3.out]; have := HRUN.out h; simpa [PS.put] using this), (fun h h' => by rw [HRE.out]; exact fun m => HD0.out h (by first | exact h' | trivial) (List.mem_cons_of_mem _ m)), rfl, ⟨rfl, rfl⟩, rfl, rfl, rfl, rfl, rfl, rfl, rfl, rfl, rfl, rfl, rfl, rfl, rfl, rfl, rfl, rfl, rfl, rfl, rfl, (congrArg (Value.int .i64) (show (n : Int) = ((n + 1 : Nat) : Int) - 1 by omega)), rfl⟩
              | false =>
              cases dq with
              | true =>
                go_wp2_with fail
                refine Met.intro ?_
                go_step
                exact ⟨a, b3, false, true, false, false, false, false, 1, tq, false, ga, ca, g3, c3, q, n + 1, sk, sub, bt, HPM.out.more (by omega), HBW.out, (by omega), (by omega), (by omega), (by omega), HXA.out, (by omega), HSL.out, (by first | assumption | omega), (fun h => by rw [HRE.out, ← HB3.out]; have := HRUN.out h; simpa [PS.put] using this), (fun h h' => by rw [HRE.out]; exact fun m => HD0.out h (by first | exact h' | trivial) (List.mem_cons_of_mem _ m)), rfl, ⟨rfl, rfl⟩, rfl, rfl, rfl, rfl, rfl, rfl, rfl, rfl, rfl, rfl, rfl, rfl, rfl, rfl, rfl, rfl, rfl, rfl, rfl, (congrArg (Value.int .i64) (show (n : Int) = ((n + 1 : Nat) : Int) - 1 by omega)), rfl⟩
              | false =>
              go_wp2_with fail
              refine Met.intro ?_
              go_step
              exact ⟨a, b3, false, false, false, false, false, false, 1, tq, true, ga, ca, g3, c3, q, n + 1, sk, sub, bt, HPM.out.more (by omega), HBW.out, (by omega), (by omega), (by omega), (by omega), HXA.out, (by omega), HSL.out, (by first | assumption | omega), (fun h => by rw [HRE.out, ← HB3.out]; have := HRUN.out h; simpa [PS.put] using this), (fun h h' => by rw [HRE.out]; exact fun m => HD0.out h (by first | exact h' | trivial) (List.mem_cons_of_mem _ m)), rfl, ⟨rfl, rfl⟩, rfl, rfl, rfl, rfl, rfl, rfl, rfl, rfl, rfl, rfl, rfl, rfl, rfl, rfl, rfl, rfl, rfl, rfl, rfl, (congrArg (Value.int .i64) (show (n : Int) = ((n + 1 : Nat) : Int) - 1 by omega)), rfl⟩
            have e36 : ((R : Int) == 36) = false := by rw [beq_eq_false_iff_ne]; omega
            have H36 := Lib.hid h36
            clear h36
            go_wp2_with fail
            refine Met.intro ?_
            go_step
            exact ⟨a, b3, false, dq, sq, false, false, false, 1, tq, false, ga, ca, g3, c3, q, n + 1, sk, sub, bt, HPM.out.more (by omega), HBW.out, (by omega), (by omega), (by omega), (by omega), HXA.out, (by omega), HSL.out, (by first | assumption | omega), (fun h => by rw [HRE.out, ← HB3.out]; have := HRUN.out h; have e : (R == 36) = false := (by rw [beq_eq_false_iff_ne]; exact H36.out); simpa [PS.put, e] using this), (fun h h' => by rw [HRE.out]; exact fun m => HD0.out h (by first | exact h' | trivial) (List.mem_cons_of_mem _ m)), rfl, ⟨rfl, rfl⟩, rfl, rfl, rfl, rfl, rfl, rfl, rfl, rfl, rfl, rfl, rfl, rfl, rfl, rfl, rfl, rfl, rfl, rfl, rfl, (congrArg (Value.int .i64) (show (n : Int) = ((n + 1 : Nat) : Int) - 1 by omega)), rfl⟩
      · have hnx : ∀ ty, (Instr.next (.pointer (some ⟨L.I, 0, none⟩)) true ty).run Tryd.prog wr = _ := fun ty => Lib.run_next_end_at wr L.I s pos ty hit hp
        go_wp2_with fail
        refine Met.intro ?_
        go_step
        exact ⟨a, b, esc, dq, sq, bq, dl, cm, g, tq, ad, ga, ca, gb, cb, pos, 5 * n, sub, bt, -1, HPM.out, HBW.out, by omega, by omega, HXA.out, hg2, fun h => by have := HRUN.out h; rw [rnsOf_end s pos hp] at this; exact this, ⟨rfl, rfl⟩, rfl, rfl, rfl, rfl, rfl, rfl, rfl, rfl, rfl, rfl⟩
  case rest0 =>
    intro a0 wx hcut
    clear HANS HDOL HW0 HB0 hIS
    obtain ⟨a, b, esc, dq, sq, bq, dl, cm, g, tq, ad, ga, ca, gb, cb, pos, m, sub, bt, ps, hpm, hbw, hal, hbl, hxa, hg2, hrun, hFr, hS0, hS6, hS7, hS8, hS9, hS10, hS11, hS12, hS15, hS22⟩ := hcut

    obtain ⟨f, hf, hA⟩ := lit419 a0 hFr
    rw [hf] at hS0 hS6 hS7 hS8 hS9 hS10 hS11 hS12 hS15 hS22
    rw [hS0, hS6, hS7, hS8, hS9, hS10, hS11, hS12, hS15, hS22] at hA
    clear hf hFr hS0 hS6 hS7 hS8 hS9 hS10 hS11 hS12 hS15 hS22
    subst hA
    have HF := Lib.hid (flush_any wx hpm hal hbl)
    rw [HLB.out] at hbw
    have HRUN := Lib.hid hrun
    have HXF := Lib.hid (flA_all (g := g) hxa hbl)
    clear hpm hrun hxa
    go_wp2_with (go_at_call 38; (with_reducible refine HF.out.mono ?_))
    rintro e w2 ⟨rfl, ⟨ga', ca', hpm2⟩, hb2⟩
    dsimp only
    rw [HLB.out] at hb2
    have hB2 := hbw.trans hb2
    have hP2 := (hB2.block P hPl).trans HP.out
    have cE : w2.cell? ⟨0, 0, none⟩ = some E := (hB2.cell (p := ⟨_, 0, none⟩) hEl).trans hE
    have cP2 : w2.cell? ⟨P, 2, none⟩ = some (.int .i64 pz) := by simp [World.cell?, hP2]
    have fP2 : w2.frozen? ⟨P, 2, none⟩ = false := by simp [World.frozen?, hP2]
    have cA := cell_of_one hpm2.lA
    have hneA : L.A ≠ P := fun e => by have := L.hA; rw [HLB.out] at this; omega
    have hfl : (flA a b g).length ≤ 4294967297 := by have : (flA a b g).length ≤ a.length + 1 := (by unfold flA; split <;> simp); omega
    have HP2 := Lib.hid hP2
    have HPM2 := Lib.hid hpm2
    clear hP2 hpm2 hbw hb2 hE HF
    cases esc with
    | true =>
      go_upto_region 130 with fail
      go_quiet (fail)
      go_wp2
      go_ret2
      exact ⟨none, fun h => by have := HRUN.out h; simpa [pend] using this, ⟨hB2.os, hB2.tape, hB2.output, hB2.size, fun k hk _ => hB2.block k hk⟩, rfl, HP2.out⟩
    | false =>
      cases sq with
      | true =>
        go_upto_region 130 with fail
        go_quiet (fail)
        go_wp2
        go_ret2
        exact ⟨none, fun h => by have := HRUN.out h; simpa [pend] using this, ⟨hB2.os, hB2.tape, hB2.output, hB2.size, fun k hk _ => hB2.block k hk⟩, rfl, HP2.out⟩
      | false =>
        cases dq with
        | true =>
          go_upto_region 130 with fail
          go_quiet (fail)
          go_wp2
          go_ret2
          exact ⟨none, fun h => by have := HRUN.out h; simpa [pend] using this, ⟨hB2.os, hB2.tape, hB2.output, hB2.size, fun k hk _ => hB2.block k hk⟩, rfl, HP2.out⟩
        | false =>
          cases bq with
          | true =>
            go_upto_region 130 with fail
            go_quiet (fail)
            go_wp2
            go_ret2
            exact ⟨none, fun h => by have := HRUN.out h; simpa [pend] using this, ⟨hB2.os, hB2.tape, hB2.output, hB2.size, fun k hk _ => hB2.block k hk⟩, rfl, HP2.out⟩
          | false =>
            cases dl with
            | true =>
              go_upto_region 130 with fail
              go_quiet (fail)
              go_wp2
              go_ret2
              exact ⟨none, fun h => by have := HRUN.out h; simpa [pend] using this, ⟨hB2.os, hB2.tape, hB2.output, hB2.size, fun k hk _ => hB2.block k hk⟩, rfl, HP2.out⟩
            | false =>
              go_wp2_with fail
              rw [Exit.noGoto_ret]
              go_ret2
              have hown := HPM2.out.oA
              rw [HLB.out] at hown
              have hP9 : (w2.setCell ⟨P, 2, none⟩ (.int .i64 ps)).heap[P]? = some (.cells #[.bool env, .bool cmt, .int .i64 ps, .slice ad0 0 cx, gv] 55 (0, 0)) := by simp [World.setCell, Array.getElem?_modify, HP2.out]
              refine ⟨some (flA a b g, ps), fun h => by have := HRUN.out h; simpa [pend] using this, ⟨hB2.os, hB2.tape, hB2.output, by simpa [World.setCell] using hB2.size, fun k hk hne => ?_⟩, ga', ca', hfl, HXF.out, rfl, ?_, hP9⟩
              · exact (Below.heap_setCell _ _ _ _ (fun e => hne (by rw [e]))).trans (hB2.block k hk)
              · exact ownsRow_setCell_other (a := ⟨P, 2, none⟩) hown (fun e => by have := (hown.lt P e).1; omega) _
end Go.Proofs.YtcjfcjlendibpaaDoor
