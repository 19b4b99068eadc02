/- Plain laws on UTF-8: a text falls into the pieces that the decoder takes one by one; a valid text is a list of good pieces. No program is in sight here. -/
import Derived.Lib.ValidLaws
import Derived.Lib.MapLaws
import Derived.Lib.RuneCount
namespace Go.Proofs.YtgmhigjhooihdaaGreatDoor.Plain
open Go.Lib

theorem decodeN_two (n b0 b1 b2 b3 : Nat) (h0 : b0 / 32 = 6) (hn : 1 < n) (h1 : b1 / 64 = 2) (hv : 128 ≤ b0 % 32 * 64 + b1 % 64) : decodeN n b0 b1 b2 b3 = (b0 % 32 * 64 + b1 % 64, 2) := by
  unfold decodeN
  rw [if_neg (by omega), if_pos ⟨h0, hn, h1⟩, if_pos hv]
theorem decodeN_three (n b0 b1 b2 b3 : Nat) (h0 : b0 / 16 = 14) (hn : 2 < n) (h1 : b1 / 64 = 2) (h2 : b2 / 64 = 2) (hv : 2048 ≤ b0 % 16 * 4096 + b1 % 64 * 64 + b2 % 64)
    (hs : b0 % 16 * 4096 + b1 % 64 * 64 + b2 % 64 < 55296 ∨ 57344 ≤ b0 % 16 * 4096 + b1 % 64 * 64 + b2 % 64) : decodeN n b0 b1 b2 b3 = (b0 % 16 * 4096 + b1 % 64 * 64 + b2 % 64, 3) := by
  unfold decodeN
  rw [if_neg (by omega), if_neg (by omega), if_pos ⟨h0, ⟨by omega, h1⟩, hn, h2⟩, if_pos ⟨hv, by omega⟩]
theorem decodeN_four (n b0 b1 b2 b3 : Nat) (h0 : b0 / 8 = 30) (hn : 3 < n) (h1 : b1 / 64 = 2) (h2 : b2 / 64 = 2) (h3 : b3 / 64 = 2) (hv : 65536 ≤ b0 % 8 * 262144 + b1 % 64 * 4096 + b2 % 64 * 64 + b3 % 64)
    (hw : b0 % 8 * 262144 + b1 % 64 * 4096 + b2 % 64 * 64 + b3 % 64 ≤ 1114111) : decodeN n b0 b1 b2 b3 = (b0 % 8 * 262144 + b1 % 64 * 4096 + b2 % 64 * 64 + b3 % 64, 4) := by
  unfold decodeN
  rw [if_neg (by omega), if_neg (by omega), if_neg (by omega), if_pos ⟨h0, ⟨by omega, h1⟩, ⟨by omega, h2⟩, hn, h3⟩, if_pos ⟨hv, by omega⟩]
theorem decodeN_ascii' (n b0 b1 b2 b3 : Nat) (h0 : b0 < 128) : decodeN n b0 b1 b2 b3 = (b0, 1) := by
  unfold decodeN
  rw [if_pos h0]
theorem decodeN_lone (b0 b1 b2 b3 : Nat) (h0 : ¬ b0 < 128) : decodeN 1 b0 b1 b2 b3 = (65533, 1) := by
  unfold decodeN
  rw [if_neg h0, if_neg (by omega), if_neg (by omega), if_neg (by omega)]

/-- what was decoded is decoded from the piece alone -/
theorem decodeL_take (l : List UInt8) (hne : l ≠ []) : decodeL (l.take (decodeL l).2) = decodeL l := by
  have hl : 0 < l.length := List.length_pos_iff.2 hne
  have E := decodeL_N l
  rcases decodeN_shape l.length (l.getD 0 0).toNat (l.getD 1 0).toNat (l.getD 2 0).toNat (l.getD 3 0).toNat with ⟨c, e⟩ | ⟨c1, c2, c3, cv, e⟩ | ⟨c1, c2, c3, c4, cv, cs, e⟩ | ⟨c1, c2, c3, c4, c5, cv, cw, e⟩ | e
  all_goals rw [e] at E
  all_goals rw [E]
  all_goals dsimp only
  · rw [takeA l hl, decodeL_N]; exact decodeN_ascii' _ _ _ _ _ c
  · rw [takeB l c2, decodeL_N]; exact decodeN_two _ _ _ _ _ c1 (by simp) c3 cv
  · rw [takeC l c2, decodeL_N]; exact decodeN_three _ _ _ _ _ c1 (by simp) c3 c4 cv cs
  · rw [takeD l c2, decodeL_N]; exact decodeN_four _ _ _ _ _ c1 (by simp) c3 c4 c5 cv cw
  · rw [takeA l hl, decodeL_N]
    by_cases h : (l.getD 0 0).toNat < 128
    · rw [decodeN_ascii' _ _ _ _ _ h] at e
      exact absurd (congrArg Prod.fst e) (by dsimp only; omega)
    · exact decodeN_lone _ _ _ _ h

/-- a piece that is a whole form of UTF-8 -/
def Good (c : List UInt8) : Prop := c ≠ [] ∧ (decodeL c).2 = c.length ∧ ¬ ((decodeL c).1 = 65533 ∧ (decodeL c).2 = 1)

theorem len_three : ∀ c : List UInt8, 3 = c.length → ∃ a b d, c = [a, b, d]
  | [a, b, d], _ => ⟨a, b, d, rfl⟩
theorem len_four : ∀ c : List UInt8, 4 = c.length → ∃ a b d f, c = [a, b, d, f]
  | [a, b, d, f], _ => ⟨a, b, d, f, rfl⟩
set_option maxRecDepth 100000 in
theorem good_three (a b d : UInt8) (r : List UInt8) (h0 : a.toNat / 16 = 14) (h1 : b.toNat / 64 = 2) (h2 : d.toNat / 64 = 2) (hv : 2048 ≤ a.toNat % 16 * 4096 + b.toNat % 64 * 64 + d.toNat % 64)
    (hs : a.toNat % 16 * 4096 + b.toNat % 64 * 64 + d.toNat % 64 < 55296 ∨ 57344 ≤ a.toNat % 16 * 4096 + b.toNat % 64 * 64 + d.toNat % 64) :
    decodeN ([a, b, d] ++ r).length (([a, b, d] ++ r).getD 0 0).toNat (([a, b, d] ++ r).getD 1 0).toNat (([a, b, d] ++ r).getD 2 0).toNat (([a, b, d] ++ r).getD 3 0).toNat = (a.toNat % 16 * 4096 + b.toNat % 64 * 64 + d.toNat % 64, 3) := by
  generalize hx : (([a, b, d] ++ r).getD 3 0).toNat = x
  have := decodeN_three (([a, b, d] ++ r).length) a.toNat b.toNat d.toNat x h0 (by simp) h1 h2 hv hs
  exact this
set_option maxRecDepth 100000 in
theorem good_four (a b d f : UInt8) (r : List UInt8) (h0 : a.toNat / 8 = 30) (h1 : b.toNat / 64 = 2) (h2 : d.toNat / 64 = 2) (h3 : f.toNat / 64 = 2) (hv : 65536 ≤ a.toNat % 8 * 262144 + b.toNat % 64 * 4096 + d.toNat % 64 * 64 + f.toNat % 64)
    (hw : a.toNat % 8 * 262144 + b.toNat % 64 * 4096 + d.toNat % 64 * 64 + f.toNat % 64 ≤ 1114111) :
    decodeN ([a, b, d, f] ++ r).length (([a, b, d, f] ++ r).getD 0 0).toNat (([a, b, d, f] ++ r).getD 1 0).toNat (([a, b, d, f] ++ r).getD 2 0).toNat (([a, b, d, f] ++ r).getD 3 0).toNat = (a.toNat % 8 * 262144 + b.toNat % 64 * 4096 + d.toNat % 64 * 64 + f.toNat % 64, 4) :=
  decodeN_four (([a, b, d, f] ++ r).length) a.toNat b.toNat d.toNat f.toNat h0 (by simp) h1 h2 h3 hv hw

theorem good_append (c r : List UInt8) (h : Good c) : decodeL (c ++ r) = decodeL c := by
  obtain ⟨hne, hlen, hbad⟩ := h
  have hl : 0 < c.length := List.length_pos_iff.2 hne
  have E := decodeL_N c
  rcases decodeN_shape c.length (c.getD 0 0).toNat (c.getD 1 0).toNat (c.getD 2 0).toNat (c.getD 3 0).toNat with ⟨g, e⟩ | ⟨c1, c2, c3, cv, e⟩ | ⟨c1, c2, c3, c4, cv, cs, e⟩ | ⟨c1, c2, c3, c4, c5, cv, cw, e⟩ | e
  all_goals rw [e] at E
  all_goals rw [E] at hlen hbad
  all_goals dsimp only at hlen hbad
  all_goals rw [E, decodeL_N]
  · match c, hlen with
    | [a], _ => exact decodeN_ascii' _ _ _ _ _ g
  · match c, hlen with
    | [a, b], _ => exact decodeN_two _ _ _ _ _ c1 (by simp) c3 cv
  · obtain ⟨a, b, d, rfl⟩ := len_three c hlen
    exact good_three a b d r c1 c3 c4 cv cs
  · obtain ⟨a, b, d, f, rfl⟩ := len_four c hlen
    exact good_four a b d f r c1 c3 c4 c5 cv cw
  · exact absurd ⟨rfl, rfl⟩ hbad

theorem good_take (l : List UInt8) (hne : l ≠ []) (hv : ¬ ((decodeL l).1 = 65533 ∧ (decodeL l).2 = 1)) : Good (l.take (decodeL l).2) := by
  have hw := decodeL_width l
  have hle := decodeL_le l hne
  have e := decodeL_take l hne
  refine ⟨fun h => ?_, ?_, ?_⟩
  · have := congrArg List.length h
    rw [List.length_take, List.length_nil] at this
    omega
  · rw [e, List.length_take]
    omega
  · rw [e]
    exact hv

/-! ### the pieces of a text -/
def segsF : Nat → List UInt8 → List (List UInt8)
  | 0, _ => []
  | n + 1, l => if l = [] then [] else l.take (decodeL l).2 :: segsF n (l.drop (decodeL l).2)
def segs (l : List UInt8) : List (List UInt8) := segsF l.length l
/-- the rune of a piece -/
def runeOf (c : List UInt8) : Nat := (decodeL c).1

theorem segsF_nil : ∀ n, segsF n [] = []
  | 0 => rfl
  | _ + 1 => by simp [segsF]
theorem segsF_fuel : ∀ (n m : Nat) (l : List UInt8), l.length ≤ n → l.length ≤ m → segsF n l = segsF m l
  | 0, m, l, hn, _ => by
    have : l = [] := List.eq_nil_of_length_eq_zero (by omega)
    subst this
    rw [segsF_nil, segsF_nil]
  | n + 1, 0, l, _, hm => by
    have : l = [] := List.eq_nil_of_length_eq_zero (by omega)
    subst this
    rw [segsF_nil, segsF_nil]
  | n + 1, m + 1, l, hn, hm => by
    by_cases hne : l = []
    · subst hne
      rw [segsF_nil, segsF_nil]
    · have hw := decodeL_width l
      have hl : 0 < l.length := List.length_pos_iff.2 hne
      simp only [segsF, if_neg hne]
      rw [segsF_fuel n m _ (by rw [List.length_drop]; omega) (by rw [List.length_drop]; omega)]
theorem segs_nil : segs [] = [] := rfl
theorem segs_step (l : List UInt8) (hne : l ≠ []) : segs l = l.take (decodeL l).2 :: segs (l.drop (decodeL l).2) := by
  have hl : 0 < l.length := List.length_pos_iff.2 hne
  have hw := decodeL_width l
  obtain ⟨n, hn⟩ : ∃ n, l.length = n + 1 := ⟨l.length - 1, by omega⟩
  show segsF l.length l = _
  rw [hn]
  simp only [segsF, if_neg hne]
  rw [segsF_fuel n (l.drop (decodeL l).2).length _ (by rw [List.length_drop]; omega) (Nat.le_refl _)]
  rfl

/-- to reason on a text piece by piece -/
theorem by_segs {p : List UInt8 → Prop} (h0 : p []) (h1 : ∀ l, l ≠ [] → p (l.drop (decodeL l).2) → p l) : ∀ l, p l := by
  intro l
  generalize hn : l.length = n
  induction n using Nat.strongRecOn generalizing l with
  | _ n ih =>
    by_cases hne : l = []
    · subst hne; exact h0
    · have hw := decodeL_width l
      have hl : 0 < l.length := List.length_pos_iff.2 hne
      exact h1 l hne (ih _ (by rw [List.length_drop]; omega) _ rfl)

theorem segs_flatten : ∀ l, (segs l).flatten = l := by
  apply by_segs
  · rfl
  · intro l hne ih
    rw [segs_step l hne, List.flatten_cons, ih, List.take_append_drop]
theorem segs_ne : ∀ l, ∀ c ∈ segs l, c ≠ [] := by
  apply by_segs
  · intro c hc; simp [segs_nil] at hc
  · intro l hne ih c hc
    rw [segs_step l hne] at hc
    rcases List.mem_cons.1 hc with rfl | h
    · intro h
      have hw := decodeL_width l
      have hl : 0 < l.length := List.length_pos_iff.2 hne
      have := congrArg List.length h
      rw [List.length_take, List.length_nil] at this
      omega
    · exact ih c h
theorem segs_eq_nil (l : List UInt8) : segs l = [] ↔ l = [] := by
  constructor
  · intro h
    have := segs_flatten l
    rw [h] at this
    exact this.symm
  · intro h; subst h; rfl
theorem segs_length_le : ∀ l, (segs l).length ≤ l.length := by
  apply by_segs
  · simp [segs_nil]
  · intro l hne ih
    have hw := decodeL_width l
    have hl : 0 < l.length := List.length_pos_iff.2 hne
    rw [segs_step l hne, List.length_cons]
    rw [List.length_drop] at ih
    omega
theorem segs_piece : ∀ l, ∀ c ∈ segs l, (decodeL c).2 = c.length := by
  apply by_segs
  · intro c hc; simp [segs_nil] at hc
  · intro l hne ih c hc
    rw [segs_step l hne] at hc
    rcases List.mem_cons.1 hc with rfl | h
    · rw [decodeL_take l hne, List.length_take]
      have := decodeL_le l hne
      omega
    · exact ih c h
theorem segs_good : ∀ l, validD l = true → ∀ c ∈ segs l, Good c := by
  apply by_segs
  · intro _ c hc; simp [segs_nil] at hc
  · intro l hne ih hv c hc
    rw [validD_step l hne] at hv
    by_cases hb : (decodeL l).1 = 65533 ∧ (decodeL l).2 = 1
    · rw [if_pos hb] at hv; cases hv
    · rw [if_neg hb] at hv
      rw [segs_step l hne] at hc
      rcases List.mem_cons.1 hc with rfl | h
      · exact good_take l hne hb
      · exact ih hv c h

theorem good_step (c r : List UInt8) (h : Good c) : (c ++ r).take (decodeL (c ++ r)).2 = c ∧ (c ++ r).drop (decodeL (c ++ r)).2 = r := by
  rw [good_append c r h, h.2.1]
  exact ⟨List.take_left, List.drop_left⟩
theorem segs_cons_good (c r : List UInt8) (h : Good c) : segs (c ++ r) = c :: segs r := by
  have hne : c ++ r ≠ [] := by
    intro e
    exact h.1 (List.append_eq_nil_iff.1 e).1
  obtain ⟨e1, e2⟩ := good_step c r h
  rw [segs_step _ hne, e1, e2]
theorem segs_flatten_good : ∀ (cs : List (List UInt8)) (r : List UInt8), (∀ c ∈ cs, Good c) → segs (cs.flatten ++ r) = cs ++ segs r
  | [], r, _ => rfl
  | c :: cs, r, h => by
    rw [List.flatten_cons, List.append_assoc, segs_cons_good c _ (h c (by simp)), segs_flatten_good cs r (fun d hd => h d (by simp [hd]))]
    rfl
theorem segs_of_good (cs : List (List UInt8)) (h : ∀ c ∈ cs, Good c) : segs cs.flatten = cs := by
  have := segs_flatten_good cs [] h
  simpa [segs_nil] using this
theorem valid_cons_good (c r : List UInt8) (h : Good c) : validD (c ++ r) = validD r := by
  have hne : c ++ r ≠ [] := by
    intro e
    exact h.1 (List.append_eq_nil_iff.1 e).1
  obtain ⟨_, e2⟩ := good_step c r h
  rw [validD_step _ hne, e2, good_append c r h, if_neg h.2.2]
theorem valid_flatten_good : ∀ (cs : List (List UInt8)) (r : List UInt8), (∀ c ∈ cs, Good c) → validD (cs.flatten ++ r) = validD r
  | [], r, _ => rfl
  | c :: cs, r, h => by
    rw [List.flatten_cons, List.append_assoc, valid_cons_good c _ (h c (by simp)), valid_flatten_good cs r (fun d hd => h d (by simp [hd]))]
theorem valid_of_good (cs : List (List UInt8)) (h : ∀ c ∈ cs, Good c) : validD cs.flatten = true := by
  have := valid_flatten_good cs [] h
  simpa [validD_nil] using this
theorem segs_append (a b : List UInt8) (h : validD a = true) : segs (a ++ b) = segs a ++ segs b := by
  have := segs_flatten_good (segs a) b (segs_good a h)
  rwa [segs_flatten] at this
theorem valid_append (a b : List UInt8) (ha : validD a = true) : validD (a ++ b) = validD b := by
  have := valid_flatten_good (segs a) b (segs_good a ha)
  rwa [segs_flatten] at this
/-- the rune of a good piece has just that piece as its form -/
theorem encode_runeOf (c : List UInt8) (h : Good c) : encodeRune (runeOf c : Int) = c := by
  have := encode_decode c h.1 h.2.2
  rw [h.2.1, List.take_length] at this
  exact this
theorem rune_le' (c : List UInt8) : runeOf c ≤ 1114111 := decodeL_rune c

theorem segs_ascii (b : UInt8) (t : List UInt8) (h : b.toNat < 128) : segs (b :: t) = [b] :: segs t := by
  rw [segs_step (b :: t) (by simp), decodeL_ascii b t h]
  rfl
theorem runeOf_ascii (b : UInt8) (h : b.toNat < 128) : runeOf [b] = b.toNat := by
  unfold runeOf
  rw [decodeL_ascii b [] h]

/-! ### the count of runes -/
theorem count_at (s : ByteArray) : ∀ (fuel pos : Nat), s.size ≤ pos + fuel → runeCountFrom s fuel pos = (segs (s.data.toList.drop pos)).length
  | 0, pos, h => by
    have : s.data.toList.drop pos = [] := List.drop_eq_nil_of_le (by rw [← size_eq]; omega)
    rw [this]; rfl
  | fuel + 1, pos, h => by
    unfold runeCountFrom
    by_cases hp : pos < s.size
    · have hne : s.data.toList.drop pos ≠ [] := by
        intro e
        have := congrArg List.length e
        rw [List.length_drop, ← size_eq] at this
        simp at this
        omega
      have hw := decode_width_pos s pos hp
      rw [if_pos hp, count_at s fuel _ (by omega), segs_step _ hne, decodeL_drop, List.drop_drop, List.length_cons]
      omega
    · have : s.data.toList.drop pos = [] := List.drop_eq_nil_of_le (by rw [← size_eq]; omega)
      rw [if_neg hp, this]; rfl
theorem runeCount_segs (s : ByteArray) : runeCount s = (segs s.data.toList).length := by
  have := count_at s s.size 0 (by omega)
  simpa [runeCount] using this
end Go.Proofs.YtgmhigjhooihdaaGreatDoor.Plain
