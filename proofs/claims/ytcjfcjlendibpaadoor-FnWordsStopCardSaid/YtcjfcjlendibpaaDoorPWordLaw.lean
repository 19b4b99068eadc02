/- Plain laws on 'words': words that are written bare, quoted or escaped are read as they are. -/
import Derived.Test.YtcjfcjlendibpaaDoorShellLaw
namespace Go.Proofs.YtcjfcjlendibpaaDoor.Plain
open Go.Lib

/-- the characters 'cs' are read as the word 'x' -/
def WordOk (cs : List Nat) (x : List UInt8) : Prop :=
  ∀ (a : List (List UInt8)) (i : Nat) (rest : List Nat), ∃ g tq, (g = 2 ∨ g = 1 ∧ x ≠ []) ∧
    prun false i (cs ++ rest) ⟨a, [], false, false, false, false, false, false, 0, false, false⟩ = prun false (i + cs.length) rest ⟨a, x, false, false, false, false, false, false, g, tq, false⟩
def joinN : List (List Nat) → List Nat
  | [] => []
  | [c] => c
  | c :: d :: l => c ++ 32 :: joinN (d :: l)
theorem flA_ok {a : List (List UInt8)} {x : List UInt8} {g : Nat} (h : g = 2 ∨ g = 1 ∧ x ≠ []) : flA a x g = a ++ [x] := by
  unfold flA
  rcases h with rfl | ⟨rfl, h⟩
  · rfl
  · rw [if_pos (by cases x with | nil => exact absurd rfl h | cons c l => rfl)]
theorem prun_words (tail : List Nat) : ∀ (l : List (List Nat × List UInt8)) (p : List Nat × List UInt8), (∀ q ∈ p :: l, WordOk q.1 q.2) → ∀ (a : List (List UInt8)) (i : Nat), ∃ g tq,
    (g = 2 ∨ g = 1 ∧ ((p :: l).getLast (by simp)).2 ≠ []) ∧
    prun false i (joinN ((p :: l).map Prod.fst) ++ tail) ⟨a, [], false, false, false, false, false, false, 0, false, false⟩ = prun false (i + (joinN ((p :: l).map Prod.fst)).length) tail ⟨a ++ (p :: l).dropLast.map Prod.snd, ((p :: l).getLast (by simp)).2, false, false, false, false, false, false, g, tq, false⟩
  | [], p, h, a, i => by
    obtain ⟨g, tq, hg, he⟩ := h p (by simp) a i tail
    refine ⟨g, tq, hg, ?_⟩
    show prun false i (p.1 ++ tail) _ = _
    rw [he]
    simp [joinN]
  | q :: l, p, h, a, i => by
    obtain ⟨g, tq, hg, he⟩ := h p (by simp) a i (32 :: (joinN ((q :: l).map Prod.fst) ++ tail))
    obtain ⟨g2, tq2, hg2, he2⟩ := prun_words tail l q (fun r hr => h r (by simp [List.mem_cons.1 hr])) (a ++ [p.2]) (i + p.1.length + 1)
    refine ⟨g2, tq2, by simpa using hg2, ?_⟩
    have e1 : joinN ((p :: q :: l).map Prod.fst) = p.1 ++ 32 :: joinN ((q :: l).map Prod.fst) := rfl
    rw [e1, List.append_assoc, List.cons_append, he, prun, pstep_sp (by decide) rfl, flA_ok hg]
    show prun false (i + p.1.length + 1) _ _ = _
    rw [he2]
    have e2 : i + (p.1 ++ 32 :: joinN ((q :: l).map Prod.fst)).length = i + p.1.length + 1 + (joinN ((q :: l).map Prod.fst)).length := by
      rw [List.length_append, List.length_cons]; omega
    rw [e2]
    simp [List.dropLast_cons_of_ne_nil, List.append_assoc]
theorem dl_gl (l : List (List Nat × List UInt8)) (h : l ≠ []) : l.dropLast.map Prod.snd ++ [(l.getLast h).2] = l.map Prod.snd := by
  have := List.dropLast_concat_getLast h
  have h2 := congrArg (List.map Prod.snd) this
  rw [List.map_append] at h2
  exact h2
theorem words_join (l : List (List Nat × List UInt8)) (hne : l ≠ []) (h : ∀ q ∈ l, WordOk q.1 q.2) : words false (joinN (l.map Prod.fst)) = some (l.map Prod.snd, -1) := by
  cases l with
  | nil => exact absurd rfl hne
  | cons p l =>
    obtain ⟨g, tq, hg, he⟩ := prun_words [] l p h [] 0
    rw [List.append_nil] at he
    unfold words pinit
    rw [he, prun]
    show some (flA _ _ _, _) = _
    rw [flA_ok hg, List.nil_append, dl_gl]
theorem words_stop (l : List (List Nat × List UInt8)) (hne : l ≠ []) (h : ∀ q ∈ l, WordOk q.1 q.2) (r : Nat) (hr : isSepN r = true) (rest : List Nat) :
    words false (joinN (l.map Prod.fst) ++ 32 :: r :: rest) = some (l.map Prod.snd, (((joinN (l.map Prod.fst)).length + 1 : Nat) : Int)) := by
  cases l with
  | nil => exact absurd rfl hne
  | cons p l =>
    obtain ⟨g, tq, hg, he⟩ := prun_words (32 :: r :: rest) l p h [] 0
    unfold words pinit
    rw [he, prun, pstep_sp (by decide) rfl, flA_ok hg, List.nil_append, dl_gl]
    show prun false _ (r :: rest) _ = _
    have hs : pstep false r ⟨(p :: l).map Prod.snd, [], false, false, false, false, false, false, 0, false, false⟩ = .stop ⟨(p :: l).map Prod.snd, [], false, false, false, false, false, false, 0, false, false⟩ 0 := by
      unfold isSepN at hr
      simp only [Bool.or_eq_true, beq_iff_eq] at hr
      rcases hr with (((rfl | rfl) | rfl) | rfl) | rfl <;> rfl
    rw [prun, hs]
    show some (flA _ _ _, _) = _
    have : flA ((p :: l).map Prod.snd) [] 0 = (p :: l).map Prod.snd := rfl
    rw [this]
    congr 2
    omega
theorem encN_ascii (c : UInt8) (h : c.toNat < 128) : encN c.toNat = [c] := by
  have : ∀ r : Fin 128, encN r.1 = [UInt8.ofNat r.1] := by decide +kernel
  rw [this ⟨c.toNat, h⟩]
  simp
/-- a byte that means nothing to a shell -/
def plainC (r : Nat) : Bool := r != 92 && !isSpN r && r != 96 && r != 41 && r != 40 && r != 34 && r != 39 && !isSepN r && r != 35 && r != 36 && r < 128
theorem pstep_plain (c : UInt8) (h : plainC c.toNat = true) (a : List (List UInt8)) (b : List UInt8) (g : Nat) (tq ad : Bool) :
    pstep false c.toNat ⟨a, b, false, false, false, false, false, false, g, tq, ad⟩ = .go ⟨a, b ++ [c], false, false, false, false, false, false, 1, tq, false⟩ := by
  unfold plainC at h
  simp only [Bool.and_eq_true, bne_iff_ne, ne_eq, Bool.not_eq_true', decide_eq_true_eq] at h
  obtain ⟨⟨⟨⟨⟨⟨⟨⟨⟨⟨h1, h2⟩, h3⟩, h4⟩, h5⟩, h6⟩, h7⟩, h8⟩, h9⟩, h10⟩, h11⟩ := h
  unfold pstep
  simp [h1, h2, h3, h4, h5, h6, h7, h8, h9, h10, PS.put, encN_ascii c h11]
theorem prun_plain (rest : List Nat) : ∀ (x : List UInt8), (∀ c ∈ x, plainC c.toNat = true) → ∀ (a : List (List UInt8)) (b : List UInt8) (g i : Nat), ∃ g2, (x = [] → g2 = g) ∧ (x ≠ [] → g2 = 1) ∧
    prun false i (x.map (·.toNat) ++ rest) ⟨a, b, false, false, false, false, false, false, g, false, false⟩ = prun false (i + x.length) rest ⟨a, b ++ x, false, false, false, false, false, false, g2, false, false⟩
  | [], h, a, b, g, i => ⟨g, fun _ => rfl, fun h => absurd rfl h, by simp⟩
  | c :: x, h, a, b, g, i => by
    obtain ⟨g2, h1, h2, h3⟩ := prun_plain rest x (fun d hd => h d (by simp [hd])) a (b ++ [c]) 1 (i + 1)
    refine ⟨g2, (by intro h; cases h), fun _ => ?_, ?_⟩
    · cases x with
      | nil => exact h1 rfl
      | cons d x => exact h2 (by simp)
    · rw [List.map_cons, List.cons_append, prun, pstep_plain c (h c (by simp))]
      show prun false (i + 1) _ _ = _
      rw [h3]
      rw [List.append_assoc, List.length_cons, show i + 1 + x.length = i + (x.length + 1) by omega]
      rfl
theorem bare_ok (x : List UInt8) (hx : x ≠ []) (h : ∀ c ∈ x, plainC c.toNat = true) : WordOk (x.map (·.toNat)) x := by
  intro a i rest
  obtain ⟨g2, _, h2, h3⟩ := prun_plain rest x h a [] 0 i
  refine ⟨g2, false, .inr ⟨h2 hx, hx⟩, ?_⟩
  rw [h3, List.length_map, List.nil_append]
/-! ### between single quotes -/
theorem pstep_inq (c : UInt8) (h : c.toNat < 128) (h39 : c.toNat ≠ 39) (a : List (List UInt8)) (b : List UInt8) (g : Nat) (tq ad : Bool) : ∃ g2,
    pstep false c.toNat ⟨a, b, false, false, true, false, false, false, g, tq, ad⟩ = .go ⟨a, b ++ [c], false, false, true, false, false, false, g2, tq, false⟩ := by
  by_cases h92 : c.toNat = 92
  · refine ⟨g, ?_⟩
    rw [h92, pstep_bss]
    have : c = 92 := UInt8.toNat_inj.1 h92
    rw [this]
  by_cases hsp : isSpN c.toNat = true
  · refine ⟨g, ?_⟩
    rw [pstep_spq h92 hsp rfl]
    simp
  · refine ⟨1, ?_⟩
    unfold pstep
    simp [h92, hsp, h39, PS.put, PS.qd, encN_ascii c h]
theorem prun_inq (rest : List Nat) : ∀ (x : List UInt8), (∀ c ∈ x, c.toNat < 128 ∧ c.toNat ≠ 39) → ∀ (a : List (List UInt8)) (b : List UInt8) (g i : Nat), ∃ g2,
    prun false i (x.map (·.toNat) ++ rest) ⟨a, b, false, false, true, false, false, false, g, true, false⟩ = prun false (i + x.length) rest ⟨a, b ++ x, false, false, true, false, false, false, g2, true, false⟩
  | [], h, a, b, g, i => ⟨g, by simp⟩
  | c :: x, h, a, b, g, i => by
    obtain ⟨g1, e1⟩ := pstep_inq c (h c (by simp)).1 (h c (by simp)).2 a b g true false
    obtain ⟨g2, e2⟩ := prun_inq rest x (fun d hd => h d (by simp [hd])) a (b ++ [c]) g1 (i + 1)
    refine ⟨g2, ?_⟩
    rw [List.map_cons, List.cons_append, prun, e1]
    show prun false (i + 1) _ _ = _
    rw [e2]
    rw [List.append_assoc, List.length_cons, show i + 1 + x.length = i + (x.length + 1) by omega]
    rfl
theorem quoted_ok (x : List UInt8) (h : ∀ c ∈ x, c.toNat < 128 ∧ c.toNat ≠ 39) : WordOk (39 :: (x.map (·.toNat) ++ [39])) x := by
  intro a i rest
  obtain ⟨g2, e⟩ := prun_inq (39 :: rest) x h a [] 0 (i + 1)
  refine ⟨2, true, .inl rfl, ?_⟩
  rw [List.cons_append, List.append_assoc, prun]
  show prun false (i + 1) (x.map (·.toNat) ++ 39 :: rest) ⟨a, [], false, false, true, false, false, false, 0, true, false⟩ = _
  rw [e, prun]
  show prun false (i + 1 + x.length + 1) rest ⟨a, x, false, false, false, false, false, false, 2, true, false⟩ = _
  rw [List.length_cons, List.length_append, List.length_map]
  show _ = prun false (i + (x.length + 1 + 1)) rest _
  rw [show i + 1 + x.length + 1 = i + (x.length + 1 + 1) by omega]
/-! ### behind backslashes -/
def alnum (r : Nat) : Bool := (decide (97 ≤ r) && decide (r ≤ 122)) || (decide (65 ≤ r) && decide (r ≤ 90)) || (decide (48 ≤ r) && decide (r ≤ 57))
def escC (c : UInt8) : List UInt8 := if alnum c.toNat = true then [c] else [92, c]
theorem alnum_plain (r : Nat) (h : alnum r = true) : plainC r = true := by
  have hr : r < 128 := by
    unfold alnum at h
    simp only [Bool.or_eq_true, Bool.and_eq_true, decide_eq_true_eq] at h
    omega
  have : ∀ r : Fin 128, alnum r.1 = true → plainC r.1 = true := by decide +kernel
  exact this ⟨r, hr⟩ h
theorem pstep_escaped (c : UInt8) (h : c.toNat < 128) (hn : alnum c.toNat = false) (a : List (List UInt8)) (b : List UInt8) (g : Nat) (tq ad : Bool) :
    pstep false c.toNat ⟨a, b, true, false, false, false, false, false, g, tq, ad⟩ = .go ⟨a, b ++ [c], false, false, false, false, false, false, 1, true, false⟩ := by
  rw [pstep_esc]
  have : escR c.toNat = c.toNat := by
    unfold escR
    rw [if_neg (fun e => by rw [e] at hn; exact absurd hn (by decide)), if_neg (fun e => by rw [e] at hn; exact absurd hn (by decide))]
  rw [this, encN_ascii c h]
theorem prun_esc (rest : List Nat) : ∀ (x : List UInt8), (∀ c ∈ x, c.toNat < 128) → ∀ (a : List (List UInt8)) (b : List UInt8) (g i : Nat) (tq : Bool), ∃ g2 tq2, (x ≠ [] → g2 = 1) ∧ (x = [] → g2 = g) ∧
    prun false i ((x.flatMap escC).map (·.toNat) ++ rest) ⟨a, b, false, false, false, false, false, false, g, tq, false⟩ = prun false (i + (x.flatMap escC).length) rest ⟨a, b ++ x, false, false, false, false, false, false, g2, tq2, false⟩
  | [], h, a, b, g, i, tq => ⟨g, tq, fun h => absurd rfl h, fun _ => rfl, by simp⟩
  | c :: x, h, a, b, g, i, tq => by
    cases hal : alnum c.toNat with
    | true =>
      obtain ⟨g2, tq2, h1, h2, h3⟩ := prun_esc rest x (fun d hd => h d (by simp [hd])) a (b ++ [c]) 1 (i + 1) tq
      refine ⟨g2, tq2, fun _ => ?_, (by intro h; cases h), ?_⟩
      · cases x with
        | nil => exact h2 rfl
        | cons d x => exact h1 (by simp)
      · have e : escC c = [c] := by unfold escC; rw [if_pos hal]
        rw [List.flatMap_cons, e, List.map_append, List.append_assoc, List.map_cons, List.map_nil, List.cons_append, List.nil_append, prun, pstep_plain c (alnum_plain _ hal)]
        show prun false (i + 1) _ _ = _
        rw [h3, List.append_assoc, List.length_append, List.length_cons, List.length_nil, show i + 1 + (x.flatMap escC).length = i + (0 + 1 + (x.flatMap escC).length) by omega]
        rfl
    | false =>
      obtain ⟨g2, tq2, h1, h2, h3⟩ := prun_esc rest x (fun d hd => h d (by simp [hd])) a (b ++ [c]) 1 (i + 1 + 1) true
      refine ⟨g2, tq2, fun _ => ?_, (by intro h; cases h), ?_⟩
      · cases x with
        | nil => exact h2 rfl
        | cons d x => exact h1 (by simp)
      · have e : escC c = [92, c] := by unfold escC; rw [if_neg (by rw [hal]; decide)]
        rw [List.flatMap_cons, e, List.map_append, List.append_assoc, List.map_cons, List.map_cons, List.map_nil, List.cons_append, List.cons_append, List.nil_append, prun]
        show prun false (i + 1) (c.toNat :: _) ⟨a, b, true, false, false, false, false, false, g, tq, false⟩ = _
        rw [prun, pstep_escaped c (h c (by simp)) hal]
        show prun false (i + 1 + 1) _ _ = _
        rw [h3, List.append_assoc, List.length_append, List.length_cons, List.length_cons, List.length_nil, show i + 1 + 1 + (x.flatMap escC).length = i + (0 + 1 + 1 + (x.flatMap escC).length) by omega]
        rfl
theorem escaped_ok (x : List UInt8) (hx : x ≠ []) (h : ∀ c ∈ x, c.toNat < 128) : WordOk ((x.flatMap escC).map (·.toNat)) x := by
  intro a i rest
  obtain ⟨g2, tq2, h1, _, h3⟩ := prun_esc rest x h a [] 0 i false
  refine ⟨g2, tq2, .inr ⟨h1 hx, hx⟩, ?_⟩
  rw [h3, List.length_map, List.nil_append]
end Go.Proofs.YtcjfcjlendibpaaDoor.Plain
