/- laws.one: a line of two words is read as it should be; the words of a line in plain words. -/
import Derived.Test.YtcjfcjlendibpaaDoorPWords
import Derived.Test.YtcjfcjlendibpaaDoorPOneLaw
import Derived.Test.YtcjfcjlendibpaaDoorTextOf
set_option linter.unusedVariables false
namespace Go.Proofs.YtcjfcjlendibpaaDoor
open Go.RowKit Plain Go.Proofs.YtcjfcjlendibpaaDoorW.PrintWords

theorem rns_ascii : ∀ (l : List UInt8), (∀ b ∈ l, b.toNat < 128) → rnsOf l = l.map (·.toNat)
  | [], _ => rfl
  | b :: l, h => by
    unfold rnsOf
    rw [segs_ascii b l (h b (by simp)), List.map_cons, runeOf_ascii b (h b (by simp))]
    have := rns_ascii l (fun c hc => h c (by simp [hc]))
    unfold rnsOf at this
    rw [this]
    rfl
/-- impl.Words at a Shell without anything: the answer is the plain one -/
theorem words0 (s : ByteArray) (ANS : PA) (hANS : words false (rnsOf s.data.toList) = ANS) (w : World) (hs : s.size ≤ 2147483648) (hE : EVar w) :
    Calls Tryd.prog 11 #[.string s, .agg #[.bool false, .bool false, .slice none 0 0, .string ⟨#[]⟩]] w (WPost false ANS w) :=
  words_any s false false false ANS (fun _ => hANS) (fun _ h => by cases h) w hs (fun h => by cases h) hE
theorem w0_none {w0 w' : World} {e : Ending} (h : WPost false none w0 e w') : e = .returned (.tuple #[.slice none 0 0, .int .i64 0, .bool false]) ∧ Below w0.heap.size w0 w' := by
  obtain ⟨A, hA, hb, hm⟩ := h
  cases hA rfl
  exact ⟨hm, hb⟩
theorem w0_some {w0 w' : World} {e : Ending} {l : List (List UInt8)} {ps : Int} (h : WPost false (some (l, ps)) w0 e w') : ∃ g c, e = .returned (.tuple #[.slice (some ⟨g, 0, none⟩) l.length c, .int .i64 ps, .bool true]) ∧ w'.ownsRow w0.heap.size 9 1 (.slice (some ⟨g, 0, none⟩) l.length c) l.length (l.map strV) ∧ Below w0.heap.size w0 w' := by
  obtain ⟨A, hA, hb, hm⟩ := h
  cases hA rfl
  obtain ⟨g, c, _, _, he, ho⟩ := hm
  exact ⟨g, c, he, ho, hb⟩
theorem w0_bound {w0 w' : World} {e : Ending} {l : List (List UInt8)} {ps : Int} (h : WPost false (some (l, ps)) w0 e w') : ∀ x ∈ l, x.length ≤ 1099511627776 := by
  obtain ⟨A, hA, hb, hm⟩ := h
  cases hA rfl
  obtain ⟨_, _, _, hx, _⟩ := hm
  exact hx
/-- a row of texts that the call has just laid -/
theorem kc_new (w : World) (l : List ByteArray) (n : Nat) (hn : l.length = n) (hb : n ≤ 4611686018427387904) : Kd.string.C (w.alloc (.cells (l.map Value.string).toArray 9)) (some ⟨w.heap.size, 0, none⟩) n l :=
  kc_row _ _ n l hn hb fun k x hx => by
    rw [World.cell?_alloc_new]
    simp [hx]
theorem own_le {w : World} {B g n c : Nat} {xs : List Value} (h : w.ownsRow B 9 1 (.slice (some ⟨g, 0, none⟩) n c) n xs) : n ≤ c := by
  rcases h.2 with ⟨h1, _⟩ | ⟨g', cap, cur, hv, _, _, hc, _⟩
  · cases h1
  · cases hv
    exact hc
theorem one_words : words false (rnsOf [97, 32, 39, 98, 32, 99, 39]) = some ([[97], [98, 32, 99]], -1) := by
  rw [rns_ascii _ (by decide)]
  decide +kernel
theorem rns_cons (b : UInt8) (l : List UInt8) (h : b.toNat < 128) : rnsOf (b :: l) = b.toNat :: rnsOf l := by
  unfold rnsOf
  rw [segs_ascii b l h, List.map_cons, runeOf_ascii b h]
theorem rns_app : ∀ (a b : List UInt8), (∀ c ∈ a, c.toNat < 128) → rnsOf (a ++ b) = a.map (·.toNat) ++ rnsOf b
  | [], b, _ => rfl
  | c :: a, b, h => by
    rw [List.cons_append, rns_cons c _ (h c (by simp)), rns_app a b (fun d hd => h d (by simp [hd]))]
    rfl
theorem pend_fst (s : PS) (p q : Int) : (pend s p).map Prod.fst = (pend s q).map Prod.fst := by
  unfold pend
  split <;> rfl
theorem prun_fst (cmt : Bool) : ∀ (l : List Nat) (i j : Nat) (s : PS), (prun cmt i l s).map Prod.fst = (prun cmt j l s).map Prod.fst
  | [], i, j, s => rfl
  | r :: l, i, j, s => by
    rw [prun, prun]
    cases pstep cmt r s with
    | go t => exact prun_fst cmt l _ _ t
    | err => rfl
    | stop t d => exact pend_fst t _ _
theorem prun_blanks (l : List Nat) : ∀ (k i : Nat), prun false i (List.replicate k 32 ++ l) pinit = prun false (i + k) l pinit
  | 0, i => rfl
  | k + 1, i => by
    rw [List.replicate_succ, List.cons_append, prun]
    have : pstep false 32 pinit = .go pinit := rfl
    rw [this]
    show prun false (i + 1) (List.replicate k 32 ++ l) pinit = _
    rw [prun_blanks l k (i + 1)]
    congr 1
    omega
theorem words_blanks (k : Nat) (l : List UInt8) : (words false (rnsOf (List.replicate k 32 ++ l))).map Prod.fst = (words false (rnsOf l)).map Prod.fst := by
  rw [rns_app _ _ (by intro c hc; rw [List.eq_of_mem_replicate hc]; decide), List.map_replicate]
  unfold words
  show (prun false 0 (List.replicate k 32 ++ rnsOf l) pinit).map Prod.fst = _
  rw [prun_blanks]
  exact prun_fst _ _ _ _ _
theorem u8_bd {x : Int} (h : (Lit.int .u8 x).wf = true) : 0 ≤ x ∧ x ≤ 255 := by simpa [Lit.wf, IntKind.min, IntKind.max, IntKind.signed, IntKind.bits] using h
theorem flA_len (a : List (List UInt8)) (b : List UInt8) (g : Nat) : (flA a b g).length ≤ a.length + 1 := by unfold flA; split <;> simp
def PRok (s : PS) : PR → Prop
  | .go t => t.a.length ≤ s.a.length + 1
  | .err => True
  | .stop t _ => t.a = s.a
theorem PRok_ite {s : PS} {c : Prop} [Decidable c] {x y : PR} (h1 : PRok s x) (h2 : PRok s y) : PRok s (if c then x else y) := by split <;> assumption
theorem a_ite {s : PS} {c : Prop} [Decidable c] {x y : PS} (h1 : x.a.length ≤ s.a.length + 1) (h2 : y.a.length ≤ s.a.length + 1) : (if c then x else y).a.length ≤ s.a.length + 1 := by split <;> assumption
theorem pstep_ok (cmt : Bool) (r : Nat) (s : PS) : PRok s (pstep cmt r s) := by
  have hf : (flA s.a s.b s.g).length ≤ s.a.length + 1 := flA_len s.a s.b s.g
  have h1 : s.a.length ≤ s.a.length + 1 := Nat.le_succ _
  unfold pstep
  repeat' (first | exact trivial | exact h1 | exact hf | exact (rfl : s.a = s.a) | refine PRok_ite ?_ ?_ | refine a_ite (s := s) ?_ ?_)
theorem pstep_len (cmt : Bool) (r : Nat) (s t : PS) (h : pstep cmt r s = .go t) : t.a.length ≤ s.a.length + 1 := by have := pstep_ok cmt r s; rw [h] at this; exact this
theorem pstep_stop (cmt : Bool) (r d : Nat) (s t : PS) (h : pstep cmt r s = .stop t d) : t.a = s.a := by have := pstep_ok cmt r s; rw [h] at this; exact this
theorem pend_len (s : PS) (p ps : Int) (l : List (List UInt8)) (h : pend s p = some (l, ps)) : l.length ≤ s.a.length + 1 := by
  unfold pend at h
  split at h
  · cases h
  · cases h
    exact flA_len _ _ _
theorem prun_len (cmt : Bool) : ∀ (l : List Nat) (i : Nat) (s : PS) (x : List (List UInt8)) (ps : Int), prun cmt i l s = some (x, ps) → x.length ≤ s.a.length + l.length + 1
  | [], i, s, x, ps, h => by have := pend_len s _ _ _ h; simpa using this
  | r :: l, i, s, x, ps, h => by
    rw [prun] at h
    cases hp : pstep cmt r s with
    | go t =>
      rw [hp] at h
      have h1 := prun_len cmt l _ t x ps h
      have h2 := pstep_len cmt r s t hp
      rw [List.length_cons]
      omega
    | err => rw [hp] at h; cases h
    | stop t d =>
      rw [hp] at h
      have h1 := pend_len t _ _ _ h
      rw [pstep_stop cmt r d s t hp] at h1
      rw [List.length_cons]
      omega
theorem words_len (cmt : Bool) (l : List UInt8) (x : List (List UInt8)) (ps : Int) (h : words cmt (rnsOf l) = some (x, ps)) : x.length ≤ l.length + 1 := by
  have h1 := prun_len cmt _ _ _ _ _ h
  have h2 := rnsOf_length l
  have h3 : pinit.a.length = 0 := rfl
  omega
set_option maxHeartbeats 2000000 in
set_option maxRecDepth 100000 in
theorem one_any (w : World) (hE : EVar w) :
    Calls Tryd.prog 9 #[] w fun e w' => e = .returned (.bool true) ∧ Below w.heap.size w w' := by
  have HW := Lib.hid (words0 ⟨#[97, 32, 39, 98, 32, 99, 39]⟩ _ one_words w (by decide) hE)
  go_enter Tryd.func9, Tryd.ntmps9
  go_wp2_with (go_at_call 11; (with_reducible refine HW.out.mono ?_))
  intro e w1 hp
  obtain ⟨g, c, rfl, ho, hb1⟩ := w0_some hp
  have hoc := own_le ho
  have HK := Lib.hid (kc_own ho rfl (by decide))
  clear hp ho
  dsimp only
  have hq := eqTexts_at (some ⟨g, 0, none⟩) (some ⟨w1.heap.size, 0, none⟩) 2 2 c 2 (baOf [[97], [98, 32, 99]]) [⟨#[97]⟩, ⟨#[98, 32, 99]⟩] (w1.alloc (.cells #[.string ⟨#[97]⟩, .string ⟨#[98, 32, 99]⟩] 9)) true (Kd.C_below HK.out ((Below.refl _ w1).alloc (Nat.le_refl _) _)) (kc_new w1 [⟨#[97]⟩, ⟨#[98, 32, 99]⟩] 2 rfl (by decide)) rfl rfl hoc (by decide) (by decide) (by decide)
  have HQ := Lib.hid hq
  clear hq
  go_wp2_with (go_at_call 13; (with_reducible refine HQ.out.mono ?_); rintro e w2 ⟨rfl, hb2⟩; dsimp only)
  go_ret
  exact ⟨rfl, bthen hb1 (bthen ((Below.refl _ w1).alloc (Nat.le_refl _) _) hb2)⟩
theorem long_at (s : ByteArray) (w : World) (b : Bool) (h : decide (4096 < s.size) = b) :
    Calls Tryd.prog 10 #[.string s] w fun e w' => e = .returned (.bool b) ∧ Below w.heap.size w w' := by
  refine (PFnWordsEnvs.laws_long.calls s b w ?_).mono fun e w' ⟨he, hd⟩ => ⟨he, hd.below⟩
  unfold PFnWordsEnvs.laws_long.f
  rw [← h]
  congr 1
  rw [decide_eq_decide]
  omega
end Go.Proofs.YtcjfcjlendibpaaDoor
