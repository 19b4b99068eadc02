/- What a pattern lists, and what the translator that deletes keeps: the same characters. No program is in sight here. -/
import Derived.Test.YtdgaehkfdaacjaaDoorTrLook
import Derived.Test.YtdgaehkfdaacjaaDoorPatLaw
set_option linter.unusedVariables false
namespace Go.Proofs.YtdgaehkfdaacjaaDoor.Plain

/-- a character is kept -/
def Mt (d : TD) (r : Int) : Prop := tlook d r ≠ none
theorem rl_append (R : List (Int × Int × Int × Int)) (x : Int × Int × Int × Int) (r : Int) : ∀ k : Nat, k ≤ R.length → rl (R ++ [x]) k r = rl R k r
  | 0, _ => rfl
  | k + 1, h => by
    have e : (R ++ [x])[k]? = R[k]? := List.getElem?_append_left (by omega)
    have ih := rl_append R x r k (by omega)
    simp only [rl, e, ih]
theorem mt_put (d : TD) (a b r : Int) : Mt (put d a b) r ↔ r = a ∨ Mt d r := by
  unfold Mt tlook put
  by_cases h : r = a
  · simp [h]
  · simp [h]
theorem mt_putR (d : TD) (a b c e r : Int) : Mt (putR d a b c e) r ↔ ((rng a b c e).1 ≤ r ∧ r ≤ (rng a b c e).2.1) ∨ Mt d r := by
  have hR : (putR d a b c e).R = d.R ++ [rng a b c e] := rfl
  have hl : (putR d a b c e).R.length = d.R.length + 1 := by rw [hR]; simp
  have hx : (putR d a b c e).R[d.R.length]? = some (rng a b c e) := by rw [hR]; simp
  by_cases h : (rng a b c e).1 ≤ r ∧ r ≤ (rng a b c e).2.1
  · have h1 : rl (putR d a b c e).R (putR d a b c e).R.length r ≠ none := by
      rw [hl, rl_in hx h]
      exact Option.some_ne_none _
    refine ⟨fun _ => Or.inl h, fun _ => ?_⟩
    unfold Mt tlook
    split
    · exact Option.some_ne_none _
    · exact h1
  · have hS : (putR d a b c e).S r = d.S r := if_neg fun y => h y.2
    have h1 : rl (putR d a b c e).R (putR d a b c e).R.length r = rl d.R d.R.length r := by
      rw [hl, rl_out hx h, hR, rl_append _ _ _ _ (Nat.le_refl _)]
    have e1 : tlook (putR d a b c e) r = tlook d r := by
      unfold tlook
      rw [hS, h1]
    unfold Mt
    rw [e1]
    exact ⟨Or.inr, fun y => y.elim (fun z => absurd z h) id⟩
theorem mt_td0 (r : Int) : ¬ Mt td0 r := fun h => h rfl
theorem rng_in (a b c e r : Int) : ((rng a b c e).1 ≤ r ∧ r ≤ (rng a b c e).2.1) ↔ (a < b ∧ a ≤ r ∧ r ≤ b) ∨ (¬ a < b ∧ b ≤ r ∧ r ≤ a) := by
  unfold rng
  by_cases h : a < b <;> simp [h]
theorem rng_mem : ∀ (k : Nat) (up : Bool) (a : Nat) (L L' : List Nat), (up = false → k ≤ a) → rngF up k a L = some L' → ∀ r : Nat, r ∈ L' ↔ r ∈ L ∨ (up = true ∧ a < r ∧ r ≤ a + k) ∨ (up = false ∧ r < a ∧ a ≤ r + k)
  | 0, up, a, L, L', hk, h, r => by
    simp only [rngF] at h
    injection h with h
    subst h
    constructor
    · exact Or.inl
    · rintro (h | h | h)
      · exact h
      · omega
      · omega
  | k + 1, true, a, L, L', hk, h, r => by
    simp only [rngF, if_true] at h
    split at h
    · cases h
    · rw [rng_mem k true _ _ L' (fun y => by cases y) h r, List.mem_append, List.mem_singleton]
      simp
      constructor
      · rintro ((h | h) | h)
        · exact Or.inl h
        · exact Or.inr (by omega)
        · exact Or.inr (by omega)
      · rintro (h | h)
        · exact Or.inl (Or.inl h)
        · by_cases e : r = a + 1
          · exact Or.inl (Or.inr e)
          · exact Or.inr (by omega)
  | k + 1, false, a, L, L', hk, h, r => by
    simp only [rngF, Bool.false_eq_true, if_false] at h
    have := hk rfl
    split at h
    · cases h
    · rw [rng_mem k false _ _ L' (fun _ => by omega) h r, List.mem_append, List.mem_singleton]
      simp
      constructor
      · rintro ((h | h) | h)
        · exact Or.inl h
        · exact Or.inr (by omega)
        · exact Or.inr (by omega)
      · rintro (h | h)
        · exact Or.inl (Or.inl h)
        · by_cases e : r = a - 1
          · exact Or.inl (Or.inr e)
          · exact Or.inr (by omega)

/-! ### the machine, deleting -/
def fin (g : Nat) (x : NT) (d : TD) : TD × Int := trEnd (outF g x d).1 (outF g x d).2
theorem innF_end : ∀ (g : Nat) (x : NT) (d : TD), x.te = -1 → innF g x d = (x, d)
  | 0, x, d, h => rfl
  | g + 1, x, d, h => by rw [innF, if_neg (fun y => y.1 h)]
theorem upd_del {x : NT} (h : x.te = -1) : upd x = x := by unfold upd; rw [if_pos h]
theorem fin_nil (g : Nat) (x : NT) (d : TD) (h : x.fr = []) : fin g x d = (if x.fe ≠ -1 then put d x.fe x.ts else d, x.ts) := by
  have : outF g x d = (x, d) := by
    cases g with
    | zero => rfl
    | succ g => rw [outF, if_pos h]
  unfold fin
  rw [this]
  rfl
theorem fin_step (g : Nat) (x : NT) (d : TD) (h : x.fr ≠ []) : fin (g + 1) x d = fin g (outS x d).1 (outS x d).2 := by
  unfold fin
  rw [outF, if_neg h]
theorem out_single {x : NT} (d : TD) (hte : x.te = -1) {p : List Nat} {s e : Int} (hn : nrr x.fr x.fe = (p, s, e, 0)) : outS x d = ({ x with fr := p, fs := s, fe := e, fst := 0 }, put d s x.ts) := by
  have h1 : rdS x = { x with fr := p, fs := s, fe := e, fst := 0 } := by unfold rdS; rw [hn]
  unfold outS
  rw [h1, if_pos rfl, upd_del (by exact hte)]
theorem out_range {x : NT} (d : TD) (hte : x.te = -1) {p : List Nat} {s e st : Int} (hn : nrr x.fr x.fe = (p, s, e, st)) (hst : st ≠ 0) (hse : s ≠ e) : outS x d = ({ x with fr := p, fs := s, fe := -1, fst := st }, putR d s e x.ts x.ts) := by
  have h1 : rdS x = { x with fr := p, fs := s, fe := e, fst := st } := by unfold rdS; rw [hn]
  unfold outS
  rw [h1, if_neg hst, innF_end _ _ _ (by exact hte)]
  unfold finS
  rw [if_neg hse]
theorem nrr_nil {e : Int} (h : e ≠ -1) : nrr [] e = ([], e, -1, 0) := by unfold nrr nrrG; rw [if_neg h]
theorem fin_skip (g : Nat) (x : NT) (d : TD) (hx : x.fr ≠ []) (hte : x.te = -1) {p : List Nat} {e : Int} (he : e ≠ -1) (hn : nrr x.fr x.fe = nrr p e) : fin (g + 1) x d = fin (g + 1) { x with fr := p, fe := e } d := by
  by_cases hp : p = []
  · subst hp
    rw [nrr_nil he] at hn
    rw [fin_step _ _ _ hx, out_single d hte hn, fin_nil _ _ _ rfl, fin_nil _ _ _ rfl]
    simp [he]
  · have hy : rdS { x with fr := p, fe := e } = rdS x := by unfold rdS; rw [hn]
    rw [fin_step _ _ _ hx, fin_step _ _ _ (by exact hp)]
    unfold outS
    rw [hy]
theorem nrr_esc {c : Nat} (q : List Nat) (e : Int) : nrr (92 :: c :: q) e = if e = -1 then nrr q c else (q, e, (c : Int), 0) := by
  unfold nrr
  rw [nrrG, if_pos ⟨rfl, rfl⟩, nrrG, if_neg (by simp), if_neg (by simp)]
  by_cases h : e = -1
  · rw [if_pos h, if_pos h]
  · rw [if_neg h, if_neg h, if_neg (by simp)]
    simp
theorem nrr_min {c : Nat} (q : List Nat) {e : Int} (he : e ≠ -1) (h1 : c ≠ 92) (h2 : c ≠ 45) : nrr (45 :: c :: q) e = if e = (c : Int) then nrr q e else (q, e, (c : Int), if e < (c : Int) then 1 else -1) := by
  unfold nrr
  rw [nrrG, if_neg (by simp), if_pos ⟨rfl, rfl⟩, if_neg he, nrrG, if_neg (by simp [h1]), if_neg (by simp [h2]), if_neg he]
  by_cases h : e = (c : Int)
  · rw [if_pos ⟨rfl, h⟩, if_pos h]
  · rw [if_neg (fun y => h y.2), if_neg h]
    simp
theorem nrr_plain {c : Nat} (q : List Nat) (e : Int) (h1 : c ≠ 92) (h2 : c ≠ 45) : nrr (c :: q) e = if e = -1 then nrr q c else (q, e, (c : Int), 0) := by
  unfold nrr
  rw [nrrG, if_neg (by simp [h1]), if_neg (by simp [h2])]
  by_cases h : e = -1
  · rw [if_pos h, if_pos h]
  · rw [if_neg h, if_neg h, if_neg (by simp)]
    simp
theorem getLastD_snoc (L : List Nat) (c x : Nat) : (L ++ [c]).getLastD x = c := by simp [List.getLastD_eq_getLast?]
theorem del_run : ∀ (n : Nat) (q : List Nat) (nt first sg : Bool) (L L' : List Nat) (x : NT) (d : TD) (g : Nat), q.length ≤ n → n ≤ g → x.fr = q → x.te = -1 → -1 ≤ x.fe →
    (∀ r : Nat, r ∈ L ↔ Mt d (r : Int) ∨ (r : Int) = x.fe) → (sg = true → x.fe = ((L.getLastD 0 : Nat) : Int)) → patF false nt q first sg L = some L' →
    (∀ r : Nat, r ∈ L' ↔ Mt (fin g x d).1 (r : Int)) ∧ (fin g x d).2 = x.ts
  | n, [], nt, first, sg, L, L', x, d, g, hn, hg, hf, hte, hfe, hL, hs, hp => by
    rw [patF] at hp
    injection hp with hp
    subst hp
    rw [fin_nil _ _ _ hf]
    refine ⟨fun r => ?_, rfl⟩
    rw [hL r]
    by_cases h : x.fe = -1
    · rw [if_neg (by simp [h]), h]
      constructor
      · rintro (y | y)
        · exact y
        · omega
      · exact Or.inl
    · rw [if_pos h, mt_put]
      exact Or.comm
  | 0, _ :: _, nt, first, sg, L, L', x, d, g, hn, hg, hf, hte, hfe, hL, hs, hp => by simp at hn
  | m + 1, c :: q, nt, first, sg, L, L', x, d, g, hn, hg, hf, hte, hfe, hL, hs, hp => by
    obtain ⟨k, rfl⟩ : ∃ k, g = k + 1 := ⟨g - 1, by omega⟩
    have hx : x.fr ≠ [] := by rw [hf]; simp
    -- the next character 'b' is read as a single one, 'p' is left
    have key : ∀ (b : Nat) (p : List Nat) (f1 s1 : Bool), p.length ≤ m → nrr x.fr x.fe = (if x.fe = -1 then nrr p b else (p, x.fe, (b : Int), 0)) → patF false nt p f1 s1 (L ++ [b]) = some L' →
        (∀ r : Nat, r ∈ L' ↔ Mt (fin (k + 1) x d).1 (r : Int)) ∧ (fin (k + 1) x d).2 = x.ts := by
      intro b p f1 s1 hp1 hnr hpf
      by_cases h : x.fe = -1
      · rw [if_pos h] at hnr
        rw [fin_skip k x d hx hte (by omega) hnr]
        refine del_run m p nt f1 s1 (L ++ [b]) L' _ d (k + 1) hp1 (by omega) rfl hte (by show (-1 : Int) ≤ (b : Int); omega) (fun r => ?_) (fun _ => by rw [getLastD_snoc]) hpf
        rw [List.mem_append, List.mem_singleton, hL r, h]
        constructor
        · rintro ((y | y) | y)
          · exact Or.inl y
          · omega
          · exact Or.inr (by show (r : Int) = (b : Int); omega)
        · rintro (y | y)
          · exact Or.inl (Or.inl y)
          · exact Or.inr (by have : (r : Int) = (b : Int) := y; omega)
      · rw [if_neg h] at hnr
        rw [fin_step _ _ _ hx, out_single d hte hnr]
        refine del_run m p nt f1 s1 (L ++ [b]) L' _ _ k hp1 (by omega) rfl hte (by show (-1 : Int) ≤ (b : Int); omega) (fun r => ?_) (fun _ => by rw [getLastD_snoc]) hpf
        rw [List.mem_append, List.mem_singleton, hL r, mt_put]
        constructor
        · rintro ((y | y) | y)
          · exact Or.inl (Or.inr y)
          · exact Or.inl (Or.inl y)
          · exact Or.inr (by show (r : Int) = (b : Int); omega)
        · rintro ((y | y) | y)
          · exact Or.inl (Or.inr y)
          · exact Or.inl (Or.inl y)
          · exact Or.inr (by have : (r : Int) = (b : Int) := y; omega)
    simp only [List.length_cons] at hn
    by_cases c1 : c = 92
    · subst c1
      cases q with
      | nil => rw [pat_esc0] at hp; cases hp
      | cons b p =>
        by_cases b1 : spc b = false
        · rw [pat_esc1 _ _ _ _ _ _ b1] at hp; cases hp
        · by_cases b2 : p.head? = some 45
          · rw [pat_esc2 _ _ _ _ _ _ b2] at hp; cases hp
          · rw [pat_esc3 _ _ _ _ _ _ (by simpa using b1) b2] at hp
            exact key b p false false (by simp only [List.length_cons] at hn; omega) (by rw [hf, nrr_esc]) hp
    · by_cases c2 : c = 45
      · subst c2
        cases q with
        | nil => rw [pat_min0] at hp; cases hp
        | cons b p =>
          by_cases b1 : sg = false ∨ spc b = true
          · rw [pat_min1 _ _ _ _ _ _ b1] at hp; cases hp
          · by_cases b2 : (L.getLastD 0 : Int) - b > 5000 ∨ (b : Int) - L.getLastD 0 > 5000
            · rw [pat_min2 _ _ _ _ _ _ b2] at hp; cases hp
            · rw [pat_min3 _ _ _ _ _ _ b1 b2] at hp
              have hsg : sg = true := by cases sg with
                | true => rfl
                | false => exact absurd (Or.inl rfl) b1
              have hb : spc b = false := by
                cases h : spc b with
                | false => rfl
                | true => exact absurd (Or.inr h) b1
              have hb92 : b ≠ 92 := fun e => by rw [e] at hb; exact absurd hb (by decide)
              have hb45 : b ≠ 45 := fun e => by rw [e] at hb; exact absurd hb (by decide)
              have hlast := hs hsg
              obtain ⟨a, ha⟩ : ∃ a, L.getLastD 0 = a := ⟨_, rfl⟩
              rw [ha] at hp hlast b2
              have hle : p.length ≤ m := by simp only [List.length_cons] at hn; omega
              split at hp
              · cases hp
              · rename_i L1 hL1
                split at hp
                · cases hp
                · have hnr := nrr_min (c := b) p (e := x.fe) (by omega) hb92 hb45
                  rw [← hf, hlast] at hnr
                  by_cases hab : a = b
                  · subst hab
                    rw [if_neg (Nat.lt_irrefl _), Nat.sub_self, rngF] at hL1
                    injection hL1 with hL1
                    subst hL1
                    rw [if_pos rfl] at hnr
                    rw [← hlast] at hnr
                    rw [fin_skip k x d hx hte (by omega) hnr]
                    exact del_run m p nt false false L L' _ d (k + 1) hle (by omega) rfl hte hfe hL (fun y => by cases y) hp
                  · rw [if_neg (by omega)] at hnr
                    rw [← hlast] at hnr
                    rw [fin_step _ _ _ hx, out_range d hte hnr (by split <;> decide) (by omega)]
                    refine del_run m p nt false false L1 L' _ _ k hle (by omega) rfl hte (by show (-1 : Int) ≤ -1; decide) (fun r => ?_) (fun y => by cases y) hp
                    have hm := rng_mem _ _ _ _ _ (by
                      intro hu
                      have : ¬ a < b := of_decide_eq_false hu
                      rw [if_neg this]; omega) hL1 r
                    rw [hm, hL r, mt_putR, rng_in, hlast]
                    by_cases hlt : a < b
                    · simp only [if_pos hlt, decide_eq_true hlt]
                      constructor
                      · rintro ((y | y) | ⟨_, y⟩ | ⟨y, _⟩)
                        · exact Or.inl (Or.inr y)
                        · exact Or.inl (Or.inl (Or.inl (by omega)))
                        · exact Or.inl (Or.inl (Or.inl (by omega)))
                        · cases y
                      · rintro ((y | y) | y)
                        · by_cases e : r = a
                          · exact Or.inl (Or.inr (by omega))
                          · exact Or.inr (Or.inl ⟨trivial, by omega⟩)
                        · exact Or.inl (Or.inl y)
                        · have : (r : Int) = -1 := y
                          omega
                    · simp only [if_neg hlt, decide_eq_false hlt]
                      constructor
                      · rintro ((y | y) | ⟨y, _⟩ | ⟨_, y⟩)
                        · exact Or.inl (Or.inr y)
                        · exact Or.inl (Or.inl (Or.inr (by omega)))
                        · cases y
                        · exact Or.inl (Or.inl (Or.inr (by omega)))
                      · rintro ((y | y) | y)
                        · by_cases e : r = a
                          · exact Or.inl (Or.inr (by omega))
                          · exact Or.inr (Or.inr ⟨trivial, by omega⟩)
                        · exact Or.inl (Or.inl y)
                        · have : (r : Int) = -1 := y
                          omega
      · by_cases c3 : c = 94 ∧ (first = false ∨ nt = true) ∧ false = false
        · obtain ⟨rfl, h3⟩ := c3
          by_cases h4 : q.head? = some 45
          · rw [pat_hat0 _ _ _ _ _ _ h3 h4] at hp; cases hp
          · rw [pat_hat1 _ _ _ _ _ _ h3 h4] at hp
            exact key 94 q false false (by omega) (by rw [hf, nrr_plain _ _ c1 c2]) hp
        · rw [pat_one _ _ _ _ _ _ c1 c2 c3] at hp
          exact key c q false true (by omega) (by rw [hf, nrr_plain _ _ c1 c2]) hp
theorem ntr_pat {p : List Nat} (t : List Nat) {nt rev first : Bool} {L : List Nat} (h : patF false nt p first false [] = some L) :
    (∀ r : Nat, r ∈ L ↔ Mt (ntr p t rev true).1 (r : Int)) ∧ (ntr p t rev true).2 = 65533 := by
  have := del_run p.length p nt first false [] L (nt0 p t rev true) td0 p.length (Nat.le_refl _) (Nat.le_refl _) rfl rfl (by show (-1 : Int) ≤ -1; decide)
    (fun r => ⟨fun y => (by cases y), fun y => y.elim (fun z => absurd z (mt_td0 _)) (fun z => by have : (r : Int) = -1 := z; omega)⟩) (fun y => by cases y) h
  exact this
end Go.Proofs.YtdgaehkfdaacjaaDoor.Plain
