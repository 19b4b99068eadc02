/- What translators of simple lists do: deleting, counting, and one character for all. -/
import Derived.Test.YtdgaehkfdaacjaaDoorTrSimple
import Derived.Test.YtdgaehkfdaacjaaDoorSimp
set_option linter.unusedVariables false
namespace Go.Proofs.YtdgaehkfdaacjaaDoor
open Plain

theorem aln_rns : ∀ P : List UInt8, (∀ c ∈ P, alnB c = true) → rnsL P = P.map fun c => c.toNat
  | [], _ => rfl
  | c :: P, h => by
    obtain ⟨h1, _⟩ := aln_asc (h c List.mem_cons_self)
    have ih := aln_rns P fun x hx => h x (List.mem_cons_of_mem _ hx)
    unfold rnsL at ih ⊢
    rw [segs_ascii c P h1, List.map_cons, List.map_cons, runeOf_ascii c h1, ih]
theorem aln_bare {P : List UInt8} (h : ∀ c ∈ P, alnB c = true) : Bare (rnsL P) := by
  rw [aln_rns P h]
  intro r hr
  obtain ⟨c, hc, rfl⟩ := List.mem_map.1 hr
  obtain ⟨_, h2, h3, _⟩ := aln_asc (h c hc)
  exact ⟨h2, h3⟩
theorem aln_rev {P : List UInt8} (h : ∀ c ∈ P, alnB c = true) : revL P = false ∧ frL P = P := by
  unfold revL frL
  cases P with
  | nil => exact ⟨rfl, by simp⟩
  | cons c P =>
    obtain ⟨_, _, _, h4⟩ := aln_asc (h c List.mem_cons_self)
    have : ¬ c = 94 := fun e => h4 (by rw [e]; rfl)
    simp [this]
theorem aln_ne {P : List UInt8} (hp : P ≠ []) (h : ∀ c ∈ P, alnB c = true) : rnsL P ≠ [] := by
  rw [aln_rns P h]
  simpa using hp
theorem ntr_del {P : List UInt8} (hp : P ≠ []) (h : ∀ c ∈ P, alnB c = true) : ntrL P [] = (putsL td0 65533 (rnsL P), 65533) := by
  unfold ntrL
  rw [(aln_rev h).1, (aln_rev h).2]
  exact bare_tr (rnsL P) (aln_ne hp h) (aln_bare h) (rnsL []) true (Or.inl rfl)
theorem fl_del {P : List UInt8} (hp : P ≠ []) (h : ∀ c ∈ P, alnB c = true) : flL P [] = (65533, false, true, true) := by
  unfold flL
  rw [if_pos (Or.inl List.isEmpty_nil), ntr_del hp h, (aln_rev h).1]
  rfl
theorem trR_del {P : List UInt8} (hp : P ≠ []) (h : ∀ c ∈ P, alnB c = true) (r : Nat) : trR (ntrL P []).1 (flL P []) r = if r ∈ rnsL P then (65533, true, true) else ((r : Int), false, false) := by
  rw [ntr_del hp h, fl_del hp h]
  unfold trR
  rw [bare_look]
  by_cases hr : r ∈ rnsL P
  · rw [if_pos hr, if_pos hr]; rfl
  · rw [if_neg hr, if_neg hr]; rfl
/-- a text without the characters of a list -/
def dl (P l : List UInt8) : List UInt8 := ((segs l).filter fun c => !decide (runeOf c ∈ rnsL P)).flatten
def dlS (P l : ByteArray) : ByteArray := ⟨(dl P.data.toList l.data.toList).toArray⟩
theorem trSeg_del {P : List UInt8} (hp : P ≠ []) (h : ∀ c ∈ P, alnB c = true) (c : List UInt8) : trSeg (ntrL P []).1 (flL P []) c = if !decide (runeOf c ∈ rnsL P) then c else [] := by
  unfold trSeg
  rw [trR_del hp h]
  by_cases hr : runeOf c ∈ rnsL P
  · simp [hr]
  · simp [hr]
theorem flat_filter (q : List UInt8 → Bool) : ∀ L : List (List UInt8), (L.map fun c => if q c then c else []).flatten = (L.filter q).flatten
  | [] => rfl
  | c :: L => by
    rw [List.map_cons, List.flatten_cons, flat_filter q L, List.filter_cons]
    cases q c with
    | true => simp
    | false => simp
theorem trL_del {P : List UInt8} (hp : P ≠ []) (h : ∀ c ∈ P, alnB c = true) (l : List UInt8) : trL (ntrL P []).1 (flL P []) l = dl P l := by
  unfold trL dl
  rw [← flat_filter]
  congr 1
  exact List.map_congr_left fun c _ => trSeg_del hp h c
theorem trB_del {P : List UInt8} (hp : P ≠ []) (h : ∀ c ∈ P, alnB c = true) (l : List UInt8) : trB P [] l = dl P l := by
  unfold trB
  rw [if_neg hp, trL_del hp h]
theorem trS_del {P : ByteArray} (h : simB P = true) (s : ByteArray) : trS P nilS s = dlS P s := by
  obtain ⟨h1, h2⟩ := simB_bare h
  unfold trS dlS
  rw [show nilS.data.toList = [] from rfl, trB_del h1 h2]
theorem cntB_del {P : ByteArray} (h : simB P = true) (l : List UInt8) : cntB P.data.toList l = ((segs l).filter fun c => decide (runeOf c ∈ rnsL P.data.toList)).length := by
  obtain ⟨h1, h2⟩ := simB_bare h
  unfold cntB cntL
  rw [if_neg h1]
  congr 2
  funext c
  rw [trR_del h1 h2]
  by_cases hr : runeOf c ∈ rnsL P.data.toList
  · simp [hr]
  · simp [hr]
theorem segs_dl (P : List UInt8) {l : List UInt8} (h : Lib.validD l = true) : segs (dl P l) = (segs l).filter fun c => !decide (runeOf c ∈ rnsL P) := by
  unfold dl
  exact segs_of_good _ fun c hc => segs_good l h c (List.mem_filter.1 hc).1
theorem dl_none (P : List UInt8) {l : List UInt8} (h : Lib.validD l = true) : ((segs (dl P l)).filter fun c => decide (runeOf c ∈ rnsL P)).length = 0 := by
  rw [segs_dl P h, List.filter_filter]
  rw [List.length_eq_zero_iff, List.filter_eq_nil_iff]
  intro c _
  simp
theorem dl_twice (P : List UInt8) {l : List UInt8} (h : Lib.validD l = true) : dl P (dl P l) = dl P l := by
  have e := segs_dl P h
  unfold dl at e ⊢
  rw [e, List.filter_filter]
  simp only [Bool.and_self]
theorem dl_order (P Q : List UInt8) {l : List UInt8} (h : Lib.validD l = true) : dl Q (dl P l) = dl P (dl Q l) := by
  have e1 := segs_dl P h
  have e2 := segs_dl Q h
  rw [dl, dl.eq_1 P (dl Q l), e1, e2, List.filter_filter, List.filter_filter]
  congr 2
  funext c
  exact Bool.and_comm _ _
theorem dl_both (P Q : List UInt8) (hP : ∀ c ∈ P, alnB c = true) (hQ : ∀ c ∈ Q, alnB c = true) {l : List UInt8} (h : Lib.validD l = true) : dl Q (dl P l) = dl (P ++ Q) l := by
  have e1 := segs_dl P h
  have e : rnsL (P ++ Q) = rnsL P ++ rnsL Q := by
    rw [aln_rns P hP, aln_rns Q hQ, aln_rns (P ++ Q) (fun c hc => (List.mem_append.1 hc).elim (hP c) (hQ c)), List.map_append]
  rw [dl, dl.eq_1 (P ++ Q) l, e1, List.filter_filter, e]
  congr 2
  funext c
  simp [List.mem_append, Bool.not_or, Bool.and_comm]
theorem flat_le (q : List UInt8 → Bool) : ∀ L : List (List UInt8), (L.filter q).flatten.length ≤ L.flatten.length
  | [] => Nat.le_refl _
  | c :: L => by
    have := flat_le q L
    rw [List.filter_cons]
    cases q c with
    | true => simp only [if_true, List.flatten_cons, List.length_append]; omega
    | false => simp only [Bool.false_eq_true, if_false, List.flatten_cons, List.length_append]; omega
theorem dl_len (P l : List UInt8) : (dl P l).length ≤ l.length := by
  have := flat_le (fun c => !decide (runeOf c ∈ rnsL P)) (segs l)
  rwa [segs_flatten] at this
theorem dlS_len (P l : ByteArray) : (dlS P l).size ≤ l.size := by
  rw [Lib.size_eq, Lib.size_eq l]
  exact dl_len _ _
theorem dlS_list (P l : ByteArray) : (dlS P l).data.toList = dl P.data.toList l.data.toList := rfl
theorem simB_append {a b : ByteArray} (ha : simB a = true) (hb : simB b = true) : simB (a ++ b) = true := by
  obtain ⟨h1, h2⟩ := simB_bare ha
  obtain ⟨h3, h4⟩ := simB_bare hb
  have e : (a ++ b).data.toList = a.data.toList ++ b.data.toList := by simp
  unfold simB
  rw [Bool.and_eq_true]
  refine ⟨?_, decide_eq_true ?_⟩
  · rw [e, List.all_append, Bool.and_eq_true]
    exact ⟨List.all_eq_true.2 h2, List.all_eq_true.2 h4⟩
  · have : 0 < a.data.toList.length := List.length_pos_iff.2 h1
    rw [Lib.size_eq, e, List.length_append]
    omega
/-! one character for all -/
theorem ntr_one {P : List UInt8} (hp : P ≠ []) (h : ∀ c ∈ P, alnB c = true) (x : UInt8) (hx : alnB x = true) : ntrL P [x] = (putsL td0 (x.toNat : Int) (rnsL P), (x.toNat : Int)) := by
  have hr : rnsL [x] = [x.toNat] := aln_rns [x] fun c hc => by rw [List.mem_singleton.1 hc]; exact hx
  obtain ⟨_, k1, k2, _⟩ := aln_asc hx
  unfold ntrL
  rw [(aln_rev h).1, (aln_rev h).2, hr]
  exact bare_tr (rnsL P) (aln_ne hp h) (aln_bare h) [x.toNat] false (Or.inr ⟨_, rfl, k1, k2⟩)
theorem trSeg_one {P : List UInt8} (hp : P ≠ []) (h : ∀ c ∈ P, alnB c = true) (x : UInt8) (hx : alnB x = true) (c : List UInt8) : trSeg (ntrL P [x]).1 (flL P [x]) c = if runeOf c ∈ rnsL P then [x] else c := by
  have hf : flL P [x] = (-1, false, false, true) := by
    unfold flL
    rw [(aln_rev h).1, if_neg (by simp)]
    rfl
  have he : Lib.encodeRune (x.toNat : Int) = [x] := by
    obtain ⟨k, _⟩ := aln_asc hx
    have := byte_all (p := fun b => !(decide (b.toNat < 128)) || (Lib.encodeRune (b.toNat : Int) == [b])) (by decide +kernel) x
    simpa [k] using this
  unfold trSeg trR
  rw [ntr_one hp h x hx, hf, bare_look]
  by_cases hr : runeOf c ∈ rnsL P
  · simp [hr, he]
  · simp [hr]
end Go.Proofs.YtdgaehkfdaacjaaDoor
