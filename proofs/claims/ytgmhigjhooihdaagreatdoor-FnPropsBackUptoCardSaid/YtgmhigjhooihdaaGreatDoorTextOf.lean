/- The text of a list of runes; a text as a row of runes. -/
import Derived.Test.YtgmhigjhooihdaaGreatDoorPlain
import Derived.Test.YtgmhigjhooihdaaGreatDoorFrm
import Derived.Lib.MapLaws
import Derived.Laws.Cover4
import Derived.Laws.IdiomStrings
import Derived.Lib.Hide
namespace Go.Proofs.YtgmhigjhooihdaaGreatDoor
open Go.RowKit Plain
theorem u8_of (a : Nat) (b : Int) (h : b.toNat = a) : UInt8.ofNat a = b.toNat.toUInt8 := by rw [h]
theorem encode_list (r : Int) : (Utf8.encode r).data.toList = Lib.encodeRune r := by
  unfold Lib.encodeRune
  by_cases h1 : 0 ≤ r ∧ r ≤ 127
  · rw [Lib.encodeRuneZ_one h1.1 h1.2]
    have hv : Utf8.valid r = true := by simp [Utf8.valid]; omega
    simp only [Utf8.encode, hv, if_true]
    rw [if_pos (by omega)]
    simp only [List.map_cons, List.map_nil]
  by_cases h2 : 128 ≤ r ∧ r ≤ 2047
  · rw [Lib.encodeRuneZ_two h2.1 h2.2]
    have hv : Utf8.valid r = true := by simp [Utf8.valid]; omega
    simp only [Utf8.encode, hv, if_true]
    rw [if_neg (by omega), if_pos (by omega)]
    simp only [List.map_cons, List.map_nil]
    rw [u8_of _ (192 + r / 64) (by omega), u8_of _ (128 + r % 64) (by omega)]
  by_cases h3 : (2048 ≤ r ∧ r < 55296) ∨ (57343 < r ∧ r ≤ 65535)
  · rw [Lib.encodeRuneZ_three h3]
    have hv : Utf8.valid r = true := by simp [Utf8.valid]; omega
    simp only [Utf8.encode, hv, if_true]
    rw [if_neg (by omega), if_neg (by omega), if_pos (by omega)]
    simp only [List.map_cons, List.map_nil]
    rw [u8_of _ (224 + r / 4096) (by omega), u8_of _ (128 + r / 64 % 64) (by omega), u8_of _ (128 + r % 64) (by omega)]
  by_cases h4 : 65536 ≤ r ∧ r ≤ 1114111
  · rw [Lib.encodeRuneZ_four h4.1 h4.2]
    have hv : Utf8.valid r = true := by simp [Utf8.valid]; omega
    simp only [Utf8.encode, hv, if_true]
    rw [if_neg (by omega), if_neg (by omega), if_neg (by omega)]
    simp only [List.map_cons, List.map_nil]
    rw [u8_of _ (240 + r / 262144) (by omega), u8_of _ (128 + r / 4096 % 64) (by omega), u8_of _ (128 + r / 64 % 64) (by omega), u8_of _ (128 + r % 64) (by omega)]
  · rw [Lib.encodeRuneZ_bad (by omega)]
    have hv : Utf8.valid r = false := by
      simp only [Utf8.valid, Bool.or_eq_false_iff, Bool.and_eq_false_iff, decide_eq_false_iff_not]
      omega
    unfold Utf8.encode
    rw [hv]
    simp only [Bool.false_eq_true, if_false]
    decide +kernel
theorem encode_str (r : Int) : Utf8.encode r = ⟨(Lib.encodeRune r).toArray⟩ := by
  apply ByteArray.ext
  apply Array.toList_inj.1
  rw [encode_list]
theorem encode_len (r : Int) : (Lib.encodeRune r).length ≤ 4 := by
  rw [← encode_list, ← Lib.size_eq]; exact encode_size_le r
theorem runesBytes_list (ns : List Nat) : (runesBytes (ns.map fun (n : Nat) => (n : Int))).data.toList = (ns.map fun (n : Nat) => Lib.encodeRune (n : Int)).flatten := by
  have key : ∀ (ns : List Nat) (s : ByteArray), ((ns.map fun (n : Nat) => (n : Int)).foldl (fun r n => r ++ Utf8.encode n) s).data.toList = s.data.toList ++ (ns.map fun (n : Nat) => Lib.encodeRune (n : Int)).flatten := by
    intro ns
    induction ns with
    | nil => intro s; simp
    | cons n ns ih =>
      intro s
      rw [List.map_cons, List.foldl_cons, ih]
      simp [encode_list]
  have := key ns ByteArray.empty
  simpa [runesBytes] using this

/-- the text of runes -/
def textOf (xs : List Nat) : ByteArray := ⟨((xs.map fun (n : Nat) => Lib.encodeRune (n : Int)).flatten).toArray⟩
theorem textOf_good (cs : List (List UInt8)) (h : ∀ c ∈ cs, Plain.Good c) : (textOf (cs.map runeOf)).data.toList = cs.flatten := by
  unfold textOf
  rw [List.toList_toArray, List.map_map]
  congr 1
  conv => rhs; rw [← List.map_id cs]
  apply List.map_congr_left
  intro c hc
  exact encode_runeOf c (h c hc)


def rnsOf (l : List UInt8) : List Nat := (segs l).map runeOf
theorem rnsOf_step (s : ByteArray) (pos : Nat) (hp : pos < s.size) : rnsOf (s.data.toList.drop pos) = (Utf8.decode s pos).1 :: rnsOf (s.data.toList.drop (pos + (Utf8.decode s pos).2)) := by
  have hne : s.data.toList.drop pos ≠ [] := by
    intro e
    have := congrArg List.length e
    rw [List.length_drop, ← Lib.size_eq] at this
    simp at this
    omega
  unfold rnsOf
  rw [segs_step _ hne, List.map_cons, List.drop_drop, Lib.decodeL_drop]
  congr 1
  unfold runeOf
  have := decodeL_take _ hne
  rw [Lib.decodeL_drop] at this
  rw [this]
theorem rnsOf_end (s : ByteArray) (pos : Nat) (hp : ¬ pos < s.size) : rnsOf (s.data.toList.drop pos) = [] := by
  have e0 : s.data.toList.drop pos = [] := List.drop_eq_nil_of_le (by rw [← Lib.size_eq]; omega)
  rw [e0]; rfl
theorem rnsOf_le (l : List UInt8) : ∀ r ∈ rnsOf l, r ≤ 1114111 := by
  intro r hr
  unfold rnsOf at hr
  obtain ⟨c, _, rfl⟩ := List.mem_map.1 hr
  exact rune_le' c
theorem rnsOf_length (l : List UInt8) : (rnsOf l).length ≤ l.length := by
  unfold rnsOf
  rw [List.length_map]
  exact segs_length_le l
def rcell (r : Nat) : Value := .int .i32 (r : Int)
theorem convRunes (s : ByteArray) : ∀ (bound i : Nat) (acc : Array Value), s.size ≤ i + bound → Conv.runesFrom s bound i acc = acc ++ ((rnsOf (s.data.toList.drop i)).map rcell).toArray
  | 0, i, acc, h => by
    rw [rnsOf_end s i (by omega)]
    simp [Conv.runesFrom]
  | bound + 1, i, acc, h => by
    unfold Conv.runesFrom
    split
    · rename_i hi
      have hw := Lib.decode_width_pos s i hi
      dsimp only
      rw [convRunes s bound _ _ (by omega), rnsOf_step s i hi]
      simp [rcell]
    · rename_i hi
      rw [rnsOf_end s i hi]
      simp
/-- block 'R' is a row of runes -/
def RowR (R : Nat) (l : List Nat) (w : World) : Prop := ∃ (pad : Array Value), w.heap[R]? = some (.cells ((l.map rcell).toArray ++ pad) 21 (0, 0))
theorem RowR.cell {R : Nat} {l : List Nat} {w : World} (h : RowR R l w) {k : Nat} {x : Nat} (hx : l[k]? = some x) : w.cell? ⟨R, k, none⟩ = some (.int .i32 (x : Int)) := by
  obtain ⟨pad, h1⟩ := h
  obtain ⟨hk, rfl⟩ := List.getElem?_eq_some_iff.1 hx
  unfold World.cell?
  rw [h1]
  simp [Array.getElem?_append, hk, rcell]
theorem RowR.frozen {R : Nat} {l : List Nat} {w : World} (h : RowR R l w) (k : Nat) : w.frozen? ⟨R, k, none⟩ = false := by
  obtain ⟨pad, h1⟩ := h
  unfold World.frozen?
  rw [h1]
  simp
theorem RowR.store {R : Nat} {l : List Nat} {w : World} (h : RowR R l w) {k : Nat} {v : Nat} (hk : k < l.length) : RowR R (l.set k v) (w.setCell ⟨R, k, none⟩ (.int .i32 (v : Int))) := by
  obtain ⟨pad, h1⟩ := h
  refine ⟨pad, ?_⟩
  simp only [World.setCell, Array.getElem?_modify, if_true, h1, Option.map_some]
  congr 2
  apply Array.toList_inj.1
  simp [hk, List.map_set, rcell]
theorem RowR.keep {R : Nat} {l : List Nat} {w w' : World} (h : RowR R l w) (e : w'.heap[R]? = w.heap[R]?) : RowR R l w' := by
  obtain ⟨pad, h1⟩ := h
  exact ⟨pad, e.trans h1⟩
theorem RowR.lt {R : Nat} {l : List Nat} {w : World} (h : RowR R l w) : R < w.heap.size := by
  obtain ⟨pad, h1⟩ := h
  exact (Array.getElem?_eq_some_iff.1 h1).1
theorem add_at (R o j : Nat) : ((⟨R, o, none⟩ : Addr).add j) = ⟨R, o + j, none⟩ := by unfold Addr.add; split <;> simp_all
/-- 'string(rs[o:o+n])' -/
theorem conv_text {src dst e : TypeId} {P : Program} (hs : P.underlying src = some (.slice e)) (he : P.underlying e = some (.int .i32)) (hd : P.underlying dst = some .string) {R : Nat} {l : List Nat} {w : World} (h : RowR R l w) (n cap : Nat) (hn : n ≤ l.length) :
    (convert src dst (.slice (some ⟨R, 0, none⟩) n cap)).run P w = .ok (.string (textOf (l.take n))) w := by
  have hr := run_convert_runes w src dst e ⟨R, 0, none⟩ n cap ((l.take n).map fun (n : Nat) => (n : Int)) (by simp; omega) hs he hd (fun j hj => by
    have hj' : j < (l.take n).length := by simpa using hj
    have hjl : j < l.length := by simp at hj'; omega
    rw [add_at, Nat.zero_add, h.cell (List.getElem?_eq_getElem hjl)]
    have e1 : ((l.take n).map fun (n : Nat) => (n : Int))[j]? = some ((l[j] : Nat) : Int) := by
      rw [List.getElem?_map, List.getElem?_eq_getElem hj', List.getElem_take]
      rfl
    rw [List.getD, e1]
    rfl)
  rw [hr, List.take_of_length_le (by simp; omega)]
  congr 2
  have := runesBytes_list (l.take n)
  unfold textOf
  rw [← this]
end Go.Proofs.YtgmhigjhooihdaaGreatDoor
