/- The walk of laws.text: the text of a list of runes. -/
import Derived.Test.YtobcoplfniojkaaDoorLen
import Derived.Laws.Cover4
namespace Go.Proofs.YtobcoplfniojkaaDoor
open Go.RowKit Plain

theorem u8_of (a : Nat) (b : Int) (h : b.toNat = a) : UInt8.ofNat a = b.toNat.toUInt8 := by rw [h]
theorem encode_list (r : Int) : (Utf8.encode r).data.toList = Lib.encodeRune r := by
  unfold Lib.encodeRune
  by_cases h1 : 0 ≤ r ∧ r ≤ 127
  · rw [Lib.encodeRuneZ_one h1.1 h1.2]
    have hv : Utf8.valid r = true := by simp [Utf8.valid]; omega
    simp only [Utf8.encode, hv, if_true]
    rw [if_pos (by omega)]
    simp only [List.map_cons, List.map_nil]
  by_cases h2 : 128 ≤ r ∧ r ≤ 2047
  · rw [Lib.encodeRuneZ_two h2.1 h2.2]
    have hv : Utf8.valid r = true := by simp [Utf8.valid]; omega
    simp only [Utf8.encode, hv, if_true]
    rw [if_neg (by omega), if_pos (by omega)]
    simp only [List.map_cons, List.map_nil]
    rw [u8_of _ (192 + r / 64) (by omega), u8_of _ (128 + r % 64) (by omega)]
  by_cases h3 : (2048 ≤ r ∧ r < 55296) ∨ (57343 < r ∧ r ≤ 65535)
  · rw [Lib.encodeRuneZ_three h3]
    have hv : Utf8.valid r = true := by simp [Utf8.valid]; omega
    simp only [Utf8.encode, hv, if_true]
    rw [if_neg (by omega), if_neg (by omega), if_pos (by omega)]
    simp only [List.map_cons, List.map_nil]
    rw [u8_of _ (224 + r / 4096) (by omega), u8_of _ (128 + r / 64 % 64) (by omega), u8_of _ (128 + r % 64) (by omega)]
  by_cases h4 : 65536 ≤ r ∧ r ≤ 1114111
  · rw [Lib.encodeRuneZ_four h4.1 h4.2]
    have hv : Utf8.valid r = true := by simp [Utf8.valid]; omega
    simp only [Utf8.encode, hv, if_true]
    rw [if_neg (by omega), if_neg (by omega), if_neg (by omega)]
    simp only [List.map_cons, List.map_nil]
    rw [u8_of _ (240 + r / 262144) (by omega), u8_of _ (128 + r / 4096 % 64) (by omega), u8_of _ (128 + r / 64 % 64) (by omega), u8_of _ (128 + r % 64) (by omega)]
  · rw [Lib.encodeRuneZ_bad (by omega)]
    have hv : Utf8.valid r = false := by
      simp only [Utf8.valid, Bool.or_eq_false_iff, Bool.and_eq_false_iff, decide_eq_false_iff_not]
      omega
    unfold Utf8.encode
    rw [hv]
    simp only [Bool.false_eq_true, if_false]
    decide +kernel
theorem runesBytes_list (ns : List Nat) : (runesBytes (ns.map fun (n : Nat) => (n : Int))).data.toList = (ns.map fun (n : Nat) => Lib.encodeRune (n : Int)).flatten := by
  have key : ∀ (ns : List Nat) (s : ByteArray), ((ns.map fun (n : Nat) => (n : Int)).foldl (fun r n => r ++ Utf8.encode n) s).data.toList = s.data.toList ++ (ns.map fun (n : Nat) => Lib.encodeRune (n : Int)).flatten := by
    intro ns
    induction ns with
    | nil => intro s; simp
    | cons n ns ih =>
      intro s
      rw [List.map_cons, List.foldl_cons, ih]
      simp [encode_list]
  have := key ns ByteArray.empty
  simpa [runesBytes] using this

/-- where a list of runes lies -/
def RunesAt (w : World) (ad : Option Addr) (xs : List Nat) : Prop := match ad with
  | none => xs = []
  | some a => ∀ (j r : Nat), xs[j]? = some r → w.cell? (a.add j) = some (.int .i32 (r : Int))
/-- the text of runes -/
def textOf (xs : List Nat) : ByteArray := ⟨((xs.map fun (n : Nat) => Lib.encodeRune (n : Int)).flatten).toArray⟩
theorem textOf_good (cs : List (List UInt8)) (h : ∀ c ∈ cs, Plain.Good c) : (textOf (cs.map runeOf)).data.toList = cs.flatten := by
  unfold textOf
  rw [List.toList_toArray, List.map_map]
  congr 1
  conv => rhs; rw [← List.map_id cs]
  apply List.map_congr_left
  intro c hc
  exact encode_runeOf c (h c hc)

set_option maxRecDepth 100000 in
theorem text_any (ad : Option Addr) (cap : Nat) (xs : List Nat) (w : World) (h : RunesAt w ad xs) :
    Calls Tryd.prog 18 #[.slice ad xs.length cap] w fun e w' => e = .returned (.string (textOf xs)) ∧ w = w' := by
  have hconv : (convert 24 9 (.slice ad xs.length cap)).run Tryd.prog w = .ok (.string (textOf xs)) w := by
    cases ad with
    | none =>
      have hx : xs = [] := h
      subst hx
      rw [run_convert_runes_nil w 24 9 21 _ _ Tryd.underlying24 Tryd.underlying21 Tryd.underlying9]
      rfl
    | some a =>
      have hh : ∀ (j r : Nat), xs[j]? = some r → w.cell? (a.add j) = some (.int .i32 (r : Int)) := h
      have hr := run_convert_runes w 24 9 21 a xs.length cap (xs.map fun (n : Nat) => (n : Int)) (by simp) Tryd.underlying24 Tryd.underlying21 Tryd.underlying9 (fun j hj => by
        have hj' : j < xs.length := by simpa using hj
        rw [hh j xs[j] (List.getElem?_eq_getElem hj')]
        simp [List.getD, hj'])
      rw [hr, List.take_of_length_le (by simp)]
      congr 2
      have := runesBytes_list xs
      unfold textOf
      rw [← this]
  generalize hn : xs.length = n at hconv ⊢
  clear hn
  generalize textOf xs = r at hconv ⊢
  go_enter Tryd.func18, Tryd.ntmps18
  go_wp2
  go_ret
  exact ⟨rfl, rfl⟩
end Go.Proofs.YtobcoplfniojkaaDoor
