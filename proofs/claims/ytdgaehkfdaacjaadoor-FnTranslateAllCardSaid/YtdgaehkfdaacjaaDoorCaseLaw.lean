/- Plain laws on strcase's delimiters: what is written for each byte of a text, and what follows. No program is in sight here. -/
import Derived.Test.YtdgaehkfdaacjaaDoorPlain
import Derived.Lib.TrimAscii
import Derived.Lib.SpaceUEq
namespace Go.Proofs.YtdgaehkfdaacjaaDoor.Plain
open Go.Lib

theorem byte_all {p : UInt8 → Bool} (h : ((List.range 256).all fun n => p (UInt8.ofNat n)) = true) (b : UInt8) : p b = true := by
  have := List.all_eq_true.1 h b.toNat (List.mem_range.2 b.toNat_lt)
  simpa using this
def capB (b : UInt8) : Bool := decide (65 ≤ b.toNat) && decide (b.toNat ≤ 90)
def lowB (b : UInt8) : Bool := decide (97 ≤ b.toNat) && decide (b.toNat ≤ 122)
def numB (b : UInt8) : Bool := decide (48 ≤ b.toNat) && decide (b.toNat ≤ 57)
def sepB (b : UInt8) : Bool := b.toNat == 32 || b.toNat == 95 || b.toNat == 45 || b.toNat == 46
/-- a letter in the case that is asked -/
def trn (scr : Bool) (b : UInt8) : UInt8 := if lowB b && scr then b - 32 else if capB b && !scr then b + 32 else b
/-- a byte's character stands in a text -/
def hasB (ign : List UInt8) (b : UInt8) : Bool := (segs ign).any fun c => runeOf c == b.toNat
def bord (b n : UInt8) : Bool := (capB b && (lowB n || numB n)) || (lowB b && (capB n || numB n)) || (numB b && (capB n || lowB n))
def prevIgn (ign : List UInt8) : Option UInt8 → Bool
  | none => false
  | some q => !ign.isEmpty && hasB ign q
def prevCap : Option UInt8 → Bool
  | none => false
  | some q => capB q
def tailO (d : UInt8) (ign : List UInt8) (v : UInt8) : List UInt8 := if sepB v && !hasB ign v then [d] else [v]
/-- what is written for a byte, with the one ahead and the one behind -/
def outB (d : UInt8) (ign : List UInt8) (scr : Bool) (p : Option UInt8) (b : UInt8) : Option UInt8 → List UInt8
  | some n => if bord b n && !prevIgn ign p then (if capB b && lowB n && prevCap p then [d] else []) ++ trn scr b :: (if lowB b || numB b || numB n then [d] else []) else tailO d ign (trn scr b)
  | none => tailO d ign (trn scr b)
def dgo (d : UInt8) (ign : List UInt8) (scr : Bool) : Option UInt8 → List UInt8 → List UInt8
  | _, [] => []
  | p, b :: l => outB d ign scr p b l.head? ++ dgo d ign scr (some b) l

/-! ### the same, with the border ahead of a byte -/
def brd : Option UInt8 → UInt8 → Option UInt8 → Bool
  | none, _, _ => false
  | some a, b, nx => (lowB a && (capB b || numB b)) || (capB a && numB b) || (numB a && (capB b || lowB b)) || (capB a && capB b && (nx.map lowB).getD false)
def cF (d : UInt8) (scr : Bool) (b : UInt8) : UInt8 := if sepB b then d else trn scr b
def spF (d : UInt8) (scr : Bool) : Option UInt8 → List UInt8 → List UInt8
  | _, [] => []
  | p, b :: l => (if brd p b l.head? then [d] else []) ++ cF d scr b :: spF d scr (some b) l
def post (d : UInt8) : Option UInt8 → Option UInt8 → List UInt8
  | some a, some b => if bord a b && (lowB a || numB a || numB b) then [d] else []
  | _, _ => []

theorem cls (b : UInt8) : (capB b && lowB b) = false ∧ (capB b && numB b) = false ∧ (lowB b && numB b) = false ∧ (sepB b && (capB b || lowB b || numB b)) = false := by
  have h := byte_all (p := fun b => !(capB b && lowB b) && !(capB b && numB b) && !(lowB b && numB b) && !(sepB b && (capB b || lowB b || numB b))) (by decide +kernel) b
  simp only [Bool.and_eq_true, Bool.not_eq_true'] at h
  exact ⟨h.1.1.1, h.1.1.2, h.1.2, h.2⟩
theorem sep_trn (scr : Bool) (b : UInt8) : sepB (trn scr b) = sepB b := by
  have h := byte_all (p := fun b => (sepB (trn true b) == sepB b) && (sepB (trn false b) == sepB b)) (by decide +kernel) b
  simp only [Bool.and_eq_true, beq_iff_eq] at h
  cases scr
  · exact h.2
  · exact h.1
theorem hasB_nil (b : UInt8) : hasB [] b = false := rfl
theorem tailO_nil (d : UInt8) (scr : Bool) (b : UInt8) : tailO d [] (trn scr b) = [cF d scr b] := by
  unfold tailO cF
  rw [hasB_nil, sep_trn]
  cases sepB b <;> rfl
theorem prevIgn_nil (p : Option UInt8) : prevIgn [] p = false := by cases p <;> rfl
theorem outB_nil (d : UInt8) (scr : Bool) (p : Option UInt8) (b : UInt8) (nx : Option UInt8) :
    outB d [] scr p b nx = (if capB b && (nx.map lowB).getD false && prevCap p then [d] else []) ++ cF d scr b :: post d (some b) nx := by
  cases nx with
  | none => simp [outB, tailO_nil, post]
  | some n =>
    obtain ⟨h1, h2, h3, h4⟩ := cls b
    obtain ⟨k1, k2, k3, k4⟩ := cls n
    simp only [outB, prevIgn_nil, post, Option.map_some, Option.getD_some, Bool.not_false, Bool.and_true]
    by_cases hb : bord b n = true
    · have hs : sepB b = false := by
        revert hb h4; unfold bord
        cases sepB b <;> cases capB b <;> cases lowB b <;> cases numB b <;> simp
      rw [hb]
      simp [cF, hs]
    · have hb' : bord b n = false := by simpa using hb
      rw [hb']
      have hp : (capB b && lowB n) = false := by
        revert hb'; unfold bord
        cases capB b <;> cases lowB n <;> simp
      simp [hp, tailO_nil]
theorem brd_bools : ∀ ca la na cb lb nb z : Bool, (ca && la) = false → (ca && na) = false → (la && na) = false → (cb && lb) = false → (cb && nb) = false → (lb && nb) = false →
    ((la && (cb || nb)) || (ca && nb) || (na && (cb || lb)) || (ca && cb && z)) = ((((ca && (lb || nb)) || (la && (cb || nb)) || (na && (cb || lb))) && (la || na || nb)) || (cb && z && ca)) ∧
    ((((ca && (lb || nb)) || (la && (cb || nb)) || (na && (cb || lb))) && (la || na || nb)) && (cb && z && ca)) = false := by decide
theorem two_ifs (d : UInt8) (x p q : Bool) (h : x = (p || q)) (k : (p && q) = false) : (if x then [d] else []) = (if p then [d] else []) ++ (if q then [d] else []) := by
  subst h
  cases p <;> cases q <;> simp_all
theorem spF_dgo (d : UInt8) (scr : Bool) : ∀ (l : List UInt8) (p : Option UInt8), spF d scr p l = post d p l.head? ++ dgo d [] scr p l
  | [], p => by cases p <;> rfl
  | b :: l, p => by
    rw [spF, spF_dgo d scr l (some b), dgo, outB_nil]
    have key : (if brd p b l.head? then [d] else []) = post d p (some b) ++ (if capB b && (l.head?.map lowB).getD false && prevCap p then [d] else []) := by
      cases p with
      | none => simp [brd, post, prevCap]
      | some a =>
        obtain ⟨h1, h2, h3, h4⟩ := cls a
        obtain ⟨k1, k2, k3, k4⟩ := cls b
        obtain ⟨e1, e2⟩ := brd_bools (capB a) (lowB a) (numB a) (capB b) (lowB b) (numB b) ((l.head?.map lowB).getD false) h1 h2 h3 k1 k2 k3
        exact two_ifs d _ _ _ e1 e2
    rw [key]
    simp
theorem dgo_nil (d : UInt8) (scr : Bool) (l : List UInt8) : dgo d [] scr none l = spF d scr none l := by
  rw [spF_dgo]; rfl

/-! ### letters turned, another delimiter -/
theorem spF_map (d d' : UInt8) (scr scr' : Bool) (f : UInt8 → UInt8) (hd : f d = d') (hc : ∀ b, f (cF d scr b) = cF d' scr' b) : ∀ (l : List UInt8) (p : Option UInt8), (spF d scr p l).map f = spF d' scr' p l
  | [], p => rfl
  | b :: l, p => by
    rw [spF, spF, List.map_append, List.map_cons, hc, spF_map d d' scr scr' f hd hc l]
    cases brd p b l.head? <;> simp [hd]
def upB (c : UInt8) : UInt8 := if lowB c then c - 32 else c
def dnB (c : UInt8) : UInt8 := if capB c then c + 32 else c
theorem up_trn (b : UInt8) : upB (trn false b) = trn true b ∧ dnB (trn true b) = trn false b := by
  have h := byte_all (p := fun b => (upB (trn false b) == trn true b) && (dnB (trn true b) == trn false b)) (by decide +kernel) b
  simpa using h
theorem up_cF (d : UInt8) (hd : lowB d = false) (b : UInt8) : upB (cF d false b) = cF d true b := by
  unfold cF
  cases sepB b
  · exact (up_trn b).1
  · simp [upB, hd]
theorem dn_cF (d : UInt8) (hd : capB d = false) (b : UInt8) : dnB (cF d true b) = cF d false b := by
  unfold cF
  cases sepB b
  · exact (up_trn b).2
  · simp [dnB, hd]
theorem scream (d : UInt8) (hd : lowB d = false) (l : List UInt8) : (spF d false none l).map upB = spF d true none l := spF_map d d _ _ _ (by simp [upB, hd]) (up_cF d hd) l none
theorem hush (d : UInt8) (hd : capB d = false) (l : List UInt8) : (spF d true none l).map dnB = spF d false none l := spF_map d d _ _ _ (by simp [dnB, hd]) (dn_cF d hd) l none

/-! ### a text with delimiters keeps its words -/
def nbF : UInt8 → List UInt8 → Prop
  | _, [] => True
  | a, b :: l => bord a b = false ∧ nbF b l
def nb : List UInt8 → Prop
  | [] => True
  | a :: l => nbF a l
theorem bord_sep (d x : UInt8) (h : sepB d = true) : bord d x = false ∧ bord x d = false := by
  obtain ⟨_, _, _, h4⟩ := cls d
  rw [h] at h4
  simp at h4
  simp [bord, h4]
theorem trn_cls (b : UInt8) : capB (trn false b) = false ∧ lowB (trn false b) = (capB b || lowB b) ∧ numB (trn false b) = numB b := by
  have h := byte_all (p := fun b => (capB (trn false b) == false) && ((lowB (trn false b) == (capB b || lowB b)) && (numB (trn false b) == numB b))) (by decide +kernel) b
  simpa using h
theorem low_bools : ∀ ca la na cb lb nb z : Bool, ((la && (cb || nb)) || (ca && nb) || (na && (cb || lb)) || (ca && cb && z)) = false →
    ((false && ((cb || lb) || nb)) || ((ca || la) && (false || nb)) || (na && (false || (cb || lb)))) = false := by decide
theorem nb_bools : ∀ la na cb lb nb z : Bool, ((false && (lb || nb)) || (la && (cb || nb)) || (na && (cb || lb))) = false → ((la && (cb || nb)) || (false && nb) || (na && (cb || lb)) || (false && cb && z)) = false := by decide
theorem bord_cF (d a b : UInt8) (hd : sepB d = true) (nx : Option UInt8) (h : brd (some a) b nx = false) : bord (cF d false a) (cF d false b) = false := by
  by_cases ha : sepB a = true
  · have : cF d false a = d := by simp [cF, ha]
    rw [this]; exact (bord_sep d _ hd).1
  by_cases hb : sepB b = true
  · have : cF d false b = d := by simp [cF, hb]
    rw [this]; exact (bord_sep d _ hd).2
  have e1 : cF d false a = trn false a := by simp [cF, ha]
  have e2 : cF d false b = trn false b := by simp [cF, hb]
  obtain ⟨a1, a2, a3⟩ := trn_cls a
  obtain ⟨b1, b2, b3⟩ := trn_cls b
  rw [e1, e2]
  unfold bord
  rw [a1, a2, a3, b1, b2, b3]
  unfold brd at h
  exact low_bools _ _ _ _ _ _ _ h
theorem nb_spF (d : UInt8) (hd : sepB d = true) : ∀ (l : List UInt8) (a : UInt8), nbF (cF d false a) (spF d false (some a) l)
  | [], _ => trivial
  | b :: l, a => by
    rw [spF]
    cases h : brd (some a) b l.head? with
    | true => exact ⟨(bord_sep d _ hd).2, (bord_sep d _ hd).1, nb_spF d hd l b⟩
    | false => exact ⟨bord_cF d a b hd _ h, nb_spF d hd l b⟩
theorem nb_all (d : UInt8) (hd : sepB d = true) (l : List UInt8) : nb (spF d false none l) := by
  cases l with
  | nil => trivial
  | cons b l => exact nb_spF d hd l b
theorem cF_nocap (d : UInt8) (hd : sepB d = true) (b : UInt8) : capB (cF d false b) = false := by
  unfold cF
  split
  · have := (cls d).2.2.2
    rw [hd] at this
    simp at this
    exact this.1.1
  · exact (trn_cls b).1
theorem mem_spF {d : UInt8} {scr : Bool} {c : UInt8} : ∀ {l : List UInt8} {p : Option UInt8}, c ∈ spF d scr p l → c = d ∨ ∃ b ∈ l, c = cF d scr b
  | [], p, h => by simp [spF] at h
  | b :: l, p, h => by
    rw [spF, List.mem_append, List.mem_cons] at h
    rcases h with h | rfl | h
    · split at h
      · exact .inl (by simpa using h)
      · simp at h
    · exact .inr ⟨b, by simp, rfl⟩
    · rcases mem_spF h with h | ⟨x, hx, rfl⟩
      · exact .inl h
      · exact .inr ⟨x, by simp [hx], rfl⟩
theorem nocap_spF (d : UInt8) (hd : sepB d = true) (l : List UInt8) : ∀ c ∈ spF d false none l, capB c = false := by
  intro c hc
  rcases mem_spF hc with rfl | ⟨b, _, rfl⟩
  · have := (cls c).2.2.2
    rw [hd] at this
    simp at this
    exact this.1.1
  · exact cF_nocap d hd b
def sub (d c : UInt8) : UInt8 := if sepB c then d else c
theorem brd_of_nb (a b : UInt8) (nx : Option UInt8) (ha : capB a = false) (h : bord a b = false) : brd (some a) b nx = false := by
  unfold bord at h
  rw [ha] at h
  have := nb_bools _ _ _ _ _ ((nx.map lowB).getD false) h
  simp only [brd, ha]
  exact this
theorem spF_sub (d : UInt8) : ∀ (u : List UInt8) (a : UInt8), capB a = false → nbF a u → (∀ c ∈ u, capB c = false) → spF d false (some a) u = u.map (sub d)
  | [], _, _, _, _ => rfl
  | b :: u, a, ha, hn, hc => by
    have hb := hc b (by simp)
    rw [spF, brd_of_nb a b _ ha hn.1, spF_sub d u b hb hn.2 (fun c h => hc c (by simp [h])), List.map_cons]
    simp [cF, sub, trn, hb]
theorem spF_sub0 (d : UInt8) (u : List UInt8) (hn : nb u) (hc : ∀ c ∈ u, capB c = false) : spF d false none u = u.map (sub d) := by
  cases u with
  | nil => rfl
  | cons b u =>
    have hb := hc b (by simp)
    rw [spF, spF_sub d u b hb hn (fun c h => hc c (by simp [h])), List.map_cons]
    simp [cF, sub, trn, hb, brd]
theorem sub_cF (d d' : UInt8) (hd : sepB d = true) (b : UInt8) : sub d' (cF d false b) = cF d' false b := by
  unfold cF sub
  cases hs : sepB b with
  | true => simp [hd]
  | false => simp [sep_trn, hs]
/-- words that are parted by one delimiter are parted anew by another one -/
theorem twice (d d' : UInt8) (hd : sepB d = true) (l : List UInt8) : spF d' false none (spF d false none l) = spF d' false none l := by
  rw [spF_sub0 d' _ (nb_all d hd l) (nocap_spF d hd l)]
  exact spF_map d d' _ _ _ (by simp [sub, hd]) (sub_cF d d' hd) l none

/-! ### white space at both ends -/
theorem spF_first (d : UInt8) (scr : Bool) (b : UInt8) (l : List UInt8) : spF d scr none (b :: l) = cF d scr b :: spF d scr (some b) l := rfl
theorem spF_last (d : UInt8) (scr : Bool) (c : UInt8) : ∀ (l : List UInt8) (p : Option UInt8), ∃ u, spF d scr p (l ++ [c]) = u ++ [cF d scr c]
  | [], p => ⟨_, rfl⟩
  | b :: l, p => by
    obtain ⟨u, hu⟩ := spF_last d scr c l (some b)
    exact ⟨(if brd p b (l ++ [c]).head? then [d] else []) ++ cF d scr b :: u, by rw [List.cons_append, spF, hu]; simp⟩
/-- neither end is white space, and all is ASCII -/
def Trim (l : List UInt8) : Prop := (∀ c ∈ l, c.toNat < 128) ∧ (∀ c, l.head? = some c → isSp c = false) ∧ (∀ c, l.getLast? = some c → isSp c = false)
theorem trim_of {l : List UInt8} (h : Trim l) : trimSpaceD l = l := by
  obtain ⟨ha, h0, h1⟩ := h
  cases hl : l with
  | nil => rfl
  | cons x t =>
    rw [← hl]
    have hlen : 0 < l.length := by rw [hl]; simp
    have hx : l[0]? = some x := by rw [hl]; rfl
    have hne : l ≠ [] := by rw [hl]; simp
    have hy : l[l.length - 1]? = some (l.getLast hne) := by rw [List.getLast_eq_getElem]; exact List.getElem?_eq_getElem _
    have := exit_cut l 0 (l.length - 1) (Nat.zero_le _) (by omega) (fun j b hj => absurd hj (Nat.not_lt_zero _)) x hx (h0 x (by rw [hl]; rfl)) (ha x (by rw [hl]; simp)) (l.getLast hne) hy (h1 _ (List.getLast?_eq_some_getLast hne)) (ha _ (List.getLast_mem hne)) (fun j b hj hb => by
      rw [List.getElem?_eq_none (by omega)] at hb; cases hb)
    rw [this, List.drop_zero, List.take_of_length_le (by omega)]
theorem cF_ok (d : UInt8) (scr : Bool) (hd : isSp d = false) (hda : d.toNat < 128) (b : UInt8) : (isSp b = false → isSp (cF d scr b) = false) ∧ (b.toNat < 128 → (cF d scr b).toNat < 128) := by
  have h := byte_all (p := fun b => (isSp (trn true b) == isSp b) && ((isSp (trn false b) == isSp b) && ((decide ((trn true b).toNat < 128) == decide (b.toNat < 128)) && (decide ((trn false b).toNat < 128) == decide (b.toNat < 128))))) (by decide +kernel) b
  simp only [Bool.and_eq_true, beq_iff_eq, decide_eq_decide] at h
  obtain ⟨h1, h2, h3, h4⟩ := h
  unfold cF
  cases sepB b with
  | true => exact ⟨fun _ => hd, fun _ => hda⟩
  | false =>
    cases scr with
    | true => exact ⟨fun k => h1.trans k, fun k => h3.2 k⟩
    | false => exact ⟨fun k => h2.trans k, fun k => h4.2 k⟩
theorem trim_spF (d : UInt8) (scr : Bool) (hd : isSp d = false) (hda : d.toNat < 128) (l : List UInt8) (h : Trim l) : Trim (spF d scr none l) := by
  refine ⟨fun c hc => ?_, fun c hc => ?_, fun c hc => ?_⟩
  · rcases mem_spF hc with rfl | ⟨b, hb, rfl⟩
    · exact hda
    · exact (cF_ok d scr hd hda b).2 (h.1 b hb)
  · cases l with
    | nil => simp [spF] at hc
    | cons b l =>
      rw [spF_first] at hc
      simp at hc
      subst hc
      exact (cF_ok d scr hd hda b).1 (h.2.1 b rfl)
  · rcases List.eq_nil_or_concat l with rfl | ⟨t, x, rfl⟩
    · simp [spF] at hc
    · obtain ⟨u, hu⟩ := spF_last d scr x t none
      rw [List.concat_eq_append] at hc h
      rw [hu] at hc
      simp at hc
      subst hc
      exact (cF_ok d scr hd hda x).1 (h.2.2 x (by simp))
theorem take_sp : ∀ (l : List UInt8) (c : UInt8), c ∈ l.takeWhile isSp → isSp c = true
  | [], _, h => by simp at h
  | b :: l, c, h => by
    rw [List.takeWhile_cons] at h
    split at h
    · rename_i hb
      rcases List.mem_cons.1 h with rfl | h
      · exact hb
      · exact take_sp l c h
    · simp at h
/-- the trimmed text of an ASCII text -/
theorem trim_ascii : ∀ (l : List UInt8), (∀ c ∈ l, c.toNat < 128) → Trim (trimSpaceD l) ∧ ∃ a b, l = a ++ (trimSpaceD l ++ b) ∧ (∀ c ∈ a, isSp c = true) ∧ (∀ c ∈ b, isSp c = true) := by
  intro l ha
  by_cases hall : ∀ c ∈ l, isSp c = true
  · have e : trimSpaceD l = [] := exit_all l (fun j b hb => hall b (List.mem_of_getElem? hb))
    rw [e]
    exact ⟨⟨by simp, by simp, by simp⟩, l, [], by simp, hall, by simp⟩
  · have hsplit : l = l.takeWhile isSp ++ l.dropWhile isSp := List.takeWhile_append_dropWhile.symm
    generalize hA : l.takeWhile isSp = A at hsplit
    generalize hB : l.dropWhile isSp = B at hsplit
    have hAs : ∀ c ∈ A, isSp c = true := by
      intro c hc; rw [← hA] at hc; exact take_sp _ c hc
    have hBne : B ≠ [] := by
      intro e
      apply hall
      intro c hc
      rw [hsplit, e, List.append_nil] at hc
      exact hAs c hc
    obtain ⟨x, t, hBx⟩ : ∃ x t, B = x :: t := by cases B with | nil => exact absurd rfl hBne | cons x t => exact ⟨x, t, rfl⟩
    have hx : isSp x = false := by
      have := List.head?_dropWhile_not isSp l
      rw [hB, hBx] at this
      simpa using this
    have hrev : B.reverse = B.reverse.takeWhile isSp ++ B.reverse.dropWhile isSp := List.takeWhile_append_dropWhile.symm
    generalize hC : B.reverse.takeWhile isSp = C at hrev
    generalize hD : B.reverse.dropWhile isSp = D at hrev
    have hCs : ∀ c ∈ C, isSp c = true := by
      intro c hc; rw [← hC] at hc; exact take_sp _ c hc
    have hBe : B = D.reverse ++ C.reverse := by
      have := congrArg List.reverse hrev
      simpa using this
    have hDne : D ≠ [] := by
      intro e
      rw [e] at hBe
      have : x ∈ C := by
        have h2 : x ∈ B := by rw [hBx]; simp
        rw [hBe] at h2
        simpa using h2
      rw [hCs x this] at hx
      cases hx
    obtain ⟨y, s, hDy⟩ : ∃ y s, D = y :: s := by cases D with | nil => exact absurd rfl hDne | cons y s => exact ⟨y, s, rfl⟩
    have hy : isSp y = false := by
      have := List.head?_dropWhile_not isSp B.reverse
      rw [hD, hDy] at this
      simpa using this
    have hl : l = A ++ (D.reverse ++ C.reverse) := by rw [hsplit, hBe]
    have hmid : D.reverse.head? = some x := by
      have := congrArg List.head? hBe
      rw [hBx, List.head?_append] at this
      rw [hDy] at this ⊢
      simp at this ⊢
      cases hs : s.getLast? with
      | none => rw [hs] at this; simpa using this.symm
      | some z => rw [hs] at this; simpa using this.symm
    have hlast : D.reverse.getLast? = some y := by rw [hDy]; simp
    have hDl : 0 < D.length := by rw [hDy]; simp
    have e : trimSpaceD l = D.reverse := by
      have hcut := exit_cut l A.length (A.length + (D.length - 1)) (by omega) (by rw [hl]; simp; omega)
        (fun j b hj hb => by
          rw [hl, List.getElem?_append_left hj] at hb
          exact hAs b (List.mem_of_getElem? hb)) x (by
          rw [hl, List.getElem?_append_right (Nat.le_refl _), Nat.sub_self, List.getElem?_append_left (by simpa using hDl), ← List.head?_eq_getElem?]
          exact hmid) hx (ha x (by rw [hsplit, hBx]; simp)) y (by
          rw [hl, List.getElem?_append_right (by omega), List.getElem?_append_left (by simp; omega), Nat.add_sub_cancel_left]
          rw [List.getLast?_eq_getElem?] at hlast
          simpa using hlast) hy (ha y (by rw [hl, hDy]; simp)) (fun j b hj hb => by
          rw [hl, List.getElem?_append_right (by omega), List.getElem?_append_right (by simp; omega)] at hb
          exact hCs b (by simpa using List.mem_of_getElem? hb))
      rw [hcut, hl]
      rw [List.drop_left]
      have : A.length + (D.length - 1) + 1 - A.length = D.reverse.length := by simp; omega
      rw [this, List.take_left]
    rw [e]
    refine ⟨⟨fun c hc => ha c (by rw [hl]; simp at hc ⊢; simp [hc]), fun c hc => ?_, fun c hc => ?_⟩, A, C.reverse, hl, hAs, by simpa using hCs⟩
    · rw [hmid] at hc; cases hc; exact hx
    · rw [hlast] at hc; cases hc; exact hy
end Go.Proofs.YtdgaehkfdaacjaaDoor.Plain
