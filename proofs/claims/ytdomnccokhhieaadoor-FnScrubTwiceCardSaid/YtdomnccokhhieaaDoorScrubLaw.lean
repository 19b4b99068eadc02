/- What scrubbing says, in plain lists of pieces. -/
import Derived.Test.YtdomnccokhhieaaDoorScrub
import Derived.Test.YtdomnccokhhieaaDoorAt
import Derived.Test.YtdomnccokhhieaaDoorValid
namespace Go.Proofs.YtdomnccokhhieaaDoor
open Go.RowKit Plain

/-- the bytes of U+FFFD -/
def fffd : List UInt8 := [239, 191, 189]
def scrP (rs : List (List UInt8)) : List (List UInt8) → Bool → List (List UInt8)
  | [], he => if he then rs else []
  | c :: cs, he => if runeOf c = 65533 then scrP rs cs true else (if he then rs else []) ++ (c :: scrP rs cs false)
theorem scrP_flat (rs : List (List UInt8)) : ∀ (cs : List (List UInt8)) (he : Bool), (scrP rs cs he).flatten = scr rs.flatten cs he
  | [], he => by cases he <;> simp [scrP, scr]
  | c :: cs, he => by
    rw [scrP, scr]
    split
    · exact scrP_flat rs cs true
    · rw [List.flatten_append, List.flatten_cons, scrP_flat rs cs false]
      cases he <;> simp
theorem scrP_all {p : List UInt8 → Prop} (rs : List (List UInt8)) (hr : ∀ c ∈ rs, p c) : ∀ (cs : List (List UInt8)) (he : Bool), (∀ c ∈ cs, ¬ runeOf c = 65533 → p c) → ∀ c ∈ scrP rs cs he, p c
  | [], he, _, c, hc => by
    cases he with
    | true => exact hr c (by simpa [scrP] using hc)
    | false => simp [scrP] at hc
  | x :: cs, he, h, c, hc => by
    rw [scrP] at hc
    split at hc
    · exact scrP_all rs hr cs true (fun d hd => h d (List.mem_cons_of_mem _ hd)) c hc
    · rename_i hx
      rcases List.mem_append.1 hc with hc | hc
      · cases he with
        | true => exact hr c (by simpa using hc)
        | false => simp at hc
      · rcases List.mem_cons.1 hc with rfl | hc
        · exact h c (List.mem_cons_self ..) hx
        · exact scrP_all rs hr cs false (fun d hd => h d (List.mem_cons_of_mem _ hd)) c hc
theorem scr_none (r : List UInt8) : ∀ (cs : List (List UInt8)), (∀ c ∈ cs, ¬ runeOf c = 65533) → scr r cs false = cs.flatten
  | [], _ => by simp [scr]
  | c :: cs, h => by
    rw [scr_good _ _ _ _ (h c (List.mem_cons_self ..)), scr_none r cs (fun d hd => h d (List.mem_cons_of_mem _ hd))]
    simp
theorem scr_length (r : List UInt8) : ∀ (cs : List (List UInt8)) (he : Bool), (scr r cs he).length ≤ cs.flatten.length + (cs.length + 1) * r.length
  | [], he => by cases he <;> simp [scr]
  | c :: cs, he => by
    rw [scr]
    split
    · have := scr_length r cs true
      rw [List.flatten_cons, List.length_append, List.length_cons, Nat.succ_mul (cs.length + 1)]
      omega
    · have := scr_length r cs false
      rw [List.flatten_cons, List.length_append, List.length_append, List.length_append, List.length_cons, Nat.succ_mul (cs.length + 1)]
      have h2 : (if he = true then r else ([] : List UInt8)).length ≤ r.length := by cases he <;> simp
      omega
/-- a good piece is no lead byte but at its head -/
theorem good_tail {c : List UInt8} (h : Plain.Good c) (i : Nat) (hi : 0 < i) (b : UInt8) (hb : c[i]? = some b) : b.toNat < 192 := by
  rw [← encode_runeOf c h] at hb
  have hr := rune_le' c
  generalize runeOf c = r at hb hr
  have key : ∀ x : Int, 0 ≤ x → x < 192 → (x.toNat.toUInt8).toNat < 192 := by
    intro x h0 h1
    have : x.toNat < 192 := by omega
    rw [Nat.toUInt8, UInt8.toNat_ofNat']
    omega
  unfold Lib.encodeRune at hb
  by_cases h1 : (r : Int) ≤ 127
  · rw [Lib.encodeRuneZ_one (by omega) h1] at hb
    rcases i with _ | i
    · omega
    · simp at hb
  by_cases h2 : (r : Int) ≤ 2047
  · rw [Lib.encodeRuneZ_two (by omega) h2] at hb
    rcases i with _ | _ | i
    · omega
    · simp only [List.map_cons, List.map_nil, Nat.zero_add, List.getElem?_cons_succ, List.getElem?_cons_zero, Option.some.injEq] at hb
      rw [← hb]; exact key _ (by omega) (by omega)
    · simp at hb
  by_cases h3 : (2048 ≤ (r : Int) ∧ (r : Int) < 55296) ∨ (57343 < (r : Int) ∧ (r : Int) ≤ 65535)
  · rw [Lib.encodeRuneZ_three h3] at hb
    rcases i with _ | _ | _ | i
    · omega
    · simp only [List.map_cons, List.map_nil, Nat.zero_add, List.getElem?_cons_succ, List.getElem?_cons_zero, Option.some.injEq] at hb
      rw [← hb]; exact key _ (by omega) (by omega)
    · simp only [List.map_cons, List.map_nil, Nat.zero_add, List.getElem?_cons_succ, List.getElem?_cons_zero, Option.some.injEq] at hb
      rw [← hb]; exact key _ (by omega) (by omega)
    · simp at hb
  by_cases h4 : 65536 ≤ (r : Int)
  · rw [Lib.encodeRuneZ_four h4 (by omega)] at hb
    rcases i with _ | _ | _ | _ | i
    · omega
    · simp only [List.map_cons, List.map_nil, Nat.zero_add, List.getElem?_cons_succ, List.getElem?_cons_zero, Option.some.injEq] at hb
      rw [← hb]; exact key _ (by omega) (by omega)
    · simp only [List.map_cons, List.map_nil, Nat.zero_add, List.getElem?_cons_succ, List.getElem?_cons_zero, Option.some.injEq] at hb
      rw [← hb]; exact key _ (by omega) (by omega)
    · simp only [List.map_cons, List.map_nil, Nat.zero_add, List.getElem?_cons_succ, List.getElem?_cons_zero, Option.some.injEq] at hb
      rw [← hb]; exact key _ (by omega) (by omega)
    · simp at hb
  · rw [Lib.encodeRuneZ_bad (by omega)] at hb
    rcases i with _ | _ | _ | i
    · omega
    · simp at hb; subst hb; decide
    · simp at hb; subst hb; decide
    · simp at hb
theorem drop_over {a b : List UInt8} {i : Nat} (h : a.length ≤ i) : (a ++ b).drop i = b.drop (i - a.length) := by
  rw [List.drop_append, List.drop_eq_nil_of_le h, List.nil_append]
theorem dec_fffd (l : List UInt8) : Lib.decodeL (fffd ++ l) = (65533, 3) := by
  have hg : Plain.Good fffd := by unfold Plain.Good; decide +kernel
  rw [good_append fffd l hg]
  decide +kernel
/-- U+FFFD stands nowhere in pieces none of which is it -/
theorem no_fffd : ∀ (cs : List (List UInt8)), (∀ c ∈ cs, Plain.Good c) → (∀ c ∈ cs, ¬ runeOf c = 65533) → ∀ i, ¬ (cs.flatten.drop i).take 3 = fffd
  | [], _, _, i, h => by simp [fffd] at h
  | c :: cs, hg, hr, i, h => by
    have hgc := hg c (List.mem_cons_self ..)
    by_cases hi : c.length ≤ i
    · rw [List.flatten_cons, drop_over hi] at h
      exact no_fffd cs (fun d hd => hg d (List.mem_cons_of_mem _ hd)) (fun d hd => hr d (List.mem_cons_of_mem _ hd)) (i - c.length) h
    · rcases Nat.eq_zero_or_pos i with rfl | h0
      · rw [List.drop_zero] at h
        have h1 : (c :: cs).flatten = fffd ++ (c :: cs).flatten.drop 3 := by rw [← h, List.take_append_drop]
        have h2 := dec_fffd ((c :: cs).flatten.drop 3)
        rw [← h1, List.flatten_cons, good_append c _ hgc] at h2
        exact hr c (List.mem_cons_self ..) (by unfold runeOf; rw [h2])
      · have h1 : c[i]? = some 239 := by
          have := congrArg (fun l => l[0]?) h
          simp only [List.getElem?_take, List.getElem?_drop, fffd] at this
          rw [List.flatten_cons, List.getElem?_append_left (by omega)] at this
          simpa using this
        have := good_tail hgc i h0 _ h1
        exact absurd this (by decide)
end Go.Proofs.YtdomnccokhhieaaDoor
