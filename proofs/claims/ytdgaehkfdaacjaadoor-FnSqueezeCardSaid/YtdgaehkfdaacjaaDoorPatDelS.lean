/- The text that deleting by a pattern leaves. -/
import Derived.Test.YtdgaehkfdaacjaaDoorPatDel
import Derived.Test.YtdgaehkfdaacjaaDoorTrBare
set_option linter.unusedVariables false
namespace Go.Proofs.YtdgaehkfdaacjaaDoor
open Plain

/-- a set of characters, or all but these, has a character -/
def inB (L : List Nat) (nt : Bool) (r : Nat) : Bool := decide (r ∈ L) != nt
def sdl (L : List Nat) (nt : Bool) (l : List UInt8) : List UInt8 := ((segs l).filter fun c => !inB L nt (runeOf c)).flatten
theorem rns_hat {P : List UInt8} (h : P.head? = some 94) : rnsL P = 94 :: rnsL P.tail := by
  cases P with
  | nil => cases h
  | cons c P =>
    obtain rfl : c = 94 := by simpa using h
    unfold rnsL
    rw [segs_ascii 94 P (by decide)]
    rfl
theorem rns_nohat {P : List UInt8} (hv : Lib.validD P = true) (h : P.head? ≠ some 94) : (rnsL P).head? ≠ some 94 := by
  intro e
  apply h
  have hf := segs_flatten P
  have hg := segs_good P hv
  unfold rnsL at e
  cases hs : segs P with
  | nil => rw [hs] at e; cases e
  | cons c cs =>
    rw [hs] at e hf hg
    have e1 : runeOf c = 94 := by simpa using e
    have e2 := encode_runeOf c (hg c List.mem_cons_self)
    rw [e1] at e2
    have e3 : c = [94] := by rw [← e2]; decide +kernel
    rw [← hf, e3]
    rfl
theorem pat_trR {P : List UInt8} (hv : Lib.validD P = true) {L : List Nat} {nt : Bool} (h : patS false (rnsL P) = some (L, nt)) (r : Nat) :
    trR (ntrL P []).1 (flL P []) r = if inB L nt r = true then (65533, true, true) else ((r : Int), false, false) := by
  unfold patS at h
  by_cases hh : P.head? = some 94
  · have hr : revL P = true := by unfold revL; rw [hh]; rfl
    have hf : frL P = P.tail := by unfold frL; rw [if_pos hh]
    rw [rns_hat hh, if_pos ⟨rfl, rfl⟩] at h
    split at h
    · cases h
    · rw [List.tail_cons] at h
      cases hp : patF false true (rnsL P.tail) true false [] with
      | none => rw [hp] at h; cases h
      | some L0 =>
        rw [hp] at h
        obtain ⟨rfl, rfl⟩ : L0 = L ∧ true = nt := by simpa using h
        obtain ⟨h1, h2⟩ := ntr_pat (rnsL []) (rev := true) hp
        have e1 : ntrL P [] = ntr (rnsL P.tail) (rnsL []) true true := by unfold ntrL; rw [hf, hr]; rfl
        have e2 : flL P [] = (65533, true, true, true) := by unfold flL; rw [if_pos (Or.inl List.isEmpty_nil), e1, h2, hr]; rfl
        rw [← e1] at h1
        unfold trR
        rw [e2]
        have h3 := h1 r
        unfold Mt at h3
        cases ht : tlook (ntrL P []).1 (r : Int) with
        | none =>
          rw [ht] at h3
          have : r ∉ L0 := fun y => (h3.1 y) rfl
          simp [inB, this]
        | some c =>
          rw [ht] at h3
          have : r ∈ L0 := h3.2 (by simp)
          simp [inB, this]
  · have hr : revL P = false := by
      unfold revL
      rw [beq_eq_false_iff_ne]
      exact hh
    have hf : frL P = P := by unfold frL; rw [if_neg hh]
    rw [if_neg (fun y => rns_nohat hv hh y.1)] at h
    cases hp : patF false false (rnsL P) true false [] with
    | none => rw [hp] at h; cases h
    | some L0 =>
      rw [hp] at h
      obtain ⟨rfl, rfl⟩ : L0 = L ∧ false = nt := by simpa using h
      obtain ⟨h1, h2⟩ := ntr_pat (rnsL []) (rev := false) hp
      have e1 : ntrL P [] = ntr (rnsL P) (rnsL []) false true := by unfold ntrL; rw [hf, hr]; rfl
      have e2 : flL P [] = (65533, false, true, true) := by unfold flL; rw [if_pos (Or.inl List.isEmpty_nil), e1, h2, hr]; rfl
      rw [← e1] at h1
      unfold trR
      rw [e2]
      have h3 := h1 r
      unfold Mt at h3
      cases ht : tlook (ntrL P []).1 (r : Int) with
      | none =>
        rw [ht] at h3
        have : r ∉ L0 := fun y => (h3.1 y) rfl
        simp [inB, this]
      | some c =>
        rw [ht] at h3
        have : r ∈ L0 := h3.2 (by simp)
        simp [inB, this]
theorem trSeg_pat {P : List UInt8} (hv : Lib.validD P = true) {L : List Nat} {nt : Bool} (h : patS false (rnsL P) = some (L, nt)) (c : List UInt8) :
    trSeg (ntrL P []).1 (flL P []) c = if !inB L nt (runeOf c) then c else [] := by
  unfold trSeg
  rw [pat_trR hv h]
  cases inB L nt (runeOf c) with
  | true => simp
  | false => simp
theorem trB_pat {P : List UInt8} (hv : Lib.validD P = true) {L : List Nat} {nt : Bool} (h : patS false (rnsL P) = some (L, nt)) (l : List UInt8) : trB P [] l = sdl L nt l := by
  unfold trB sdl
  by_cases hp : P = []
  · subst hp
    have h0 : patS false (rnsL []) = some ([], false) := by
      have : rnsL [] = [] := by simp [rnsL, segs_nil]
      rw [this]; rfl
    rw [h0] at h
    obtain ⟨rfl, rfl⟩ : [] = L ∧ false = nt := by simpa using h
    rw [if_pos rfl]
    have : (segs l).filter (fun c => !inB [] false (runeOf c)) = segs l := List.filter_eq_self.2 fun c _ => by simp [inB]
    rw [this, segs_flatten]
  · rw [if_neg hp, ← flat_filter]
    unfold trL
    congr 1
    exact List.map_congr_left fun c _ => trSeg_pat hv h c
theorem trS_pat {P : ByteArray} (hv : Lib.validD P.data.toList = true) {L : List Nat} {nt : Bool} (h : patS false (rnsL P.data.toList) = some (L, nt)) (s : ByteArray) : trS P nilS s = ⟨(sdl L nt s.data.toList).toArray⟩ := by
  unfold trS
  rw [show nilS.data.toList = [] from rfl, trB_pat hv h]
end Go.Proofs.YtdgaehkfdaacjaaDoor
