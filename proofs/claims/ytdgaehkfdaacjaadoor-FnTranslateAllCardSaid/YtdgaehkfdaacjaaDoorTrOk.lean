/- All that a translator keeps are characters. -/
import Derived.Test.YtdgaehkfdaacjaaDoorNewT
import Derived.Test.YtdgaehkfdaacjaaDoorTrLook
set_option linter.unusedVariables false
namespace Go.Proofs.YtdgaehkfdaacjaaDoor
open Plain

theorem dok_put {d : TD} (h : DOk d) {a c : Int} (h0 : 0 ≤ c) (h1 : c ≤ 1114111) : DOk (put d a c) := by
  refine ⟨fun r x hx => ?_, h.2⟩
  simp only [put] at hx
  split at hx
  · injection hx with e; subst e; exact ⟨h0, h1⟩
  · exact h.1 r x hx
theorem dok_putR {d : TD} (h : DOk d) {a b c e : Int} (a0 : 0 ≤ a) (a1 : a ≤ 1114111) (b0 : 0 ≤ b) (b1 : b ≤ 1114111) (c0 : 0 ≤ c) (c1 : c ≤ 1114111) (e0 : 0 ≤ e) (e1 : e ≤ 1114111) : DOk (putR d a b c e) := by
  refine ⟨fun r x hx => ?_, fun x hx => ?_⟩
  · simp only [putR] at hx
    split at hx
    · cases hx
    · exact h.1 r x hx
  · simp only [putR, List.mem_append, List.mem_singleton] at hx
    rcases hx with hx | rfl
    · exact h.2 x hx
    · unfold rng
      split <;> exact ⟨by assumption, by assumption, by assumption, by assumption, by assumption, by assumption, by assumption, by assumption⟩
theorem dok_innS {x : NT} {d : TD} (h : IOk x) (hd : DOk d) (hte : x.te ≠ -1) (hne : x.fs ≠ x.fe) : DOk (innS x d).2.1 := by
  have t0 := h.s.nt.s0
  have t1 := h.s.nt.s1
  have t2 := h.s.nt.e0
  have t3 := h.s.nt.e1
  have hu := upd_ok h.s.nt
  unfold innS
  split
  · split
    · exact dok_put (dok_put hd t0 t1) hu.s0 hu.s1
    · exact dok_put hd t0 t1
  · rename_i hz
    split
    · rename_i hlt
      obtain ⟨j1, j2, j3, j4, j5, j6⟩ := h.jump hte hne hz hlt
      have hr := dok_putR hd h.s0 h.s1 j1 j2 t0 t1 (by omega) t3
      split
      · exact dok_put hr j5.updS.s.nt.s0 j5.updS.s.nt.s1
      · exact hr
    · rename_i hlt
      obtain ⟨j1, j2, j3, j4, j5, j6⟩ := h.last hte hne hz hlt
      exact dok_putR hd h.s0 h.s1 h.e0 h.s.e1 t0 t1 j1 j2
theorem dok_innF : ∀ (g : Nat) (x : NT) (d : TD), IOk x → far x < g → DOk d → DOk (innF g x d).2
  | 0, _, _, _, h, _ => by omega
  | g + 1, x, d, h, hg, hd => by
    simp only [innF]
    split
    · rename_i hc
      obtain ⟨i1, i2, i3, i4, i5⟩ := innS_ok d h hc.1 hc.2
      split
      · rename_i hb
        have := i2 hb
        exact dok_innF g _ _ i1 (by omega) (dok_innS h hd hc.1 hc.2)
      · exact dok_innS h hd hc.1 hc.2
    · exact hd
theorem dok_outS {x : NT} {d : TD} (h : SOk x) (hd : DOk d) : DOk (outS x d).2 := by
  obtain ⟨k1, k2, k3, k4, k5⟩ := rdS_ok h
  unfold outS
  split
  · exact dok_put hd k1.nt.s0 k1.nt.s1
  · rename_i hz
    obtain ⟨i1, i2⟩ := k4 hz
    have hf : far (rdS x) < 3000000 := by
      have := i1.s0
      have := i1.s1
      have := i1.e0
      have := i1.s.e1
      unfold far
      omega
    have hi := (innF_ok 3000000 (rdS x) d i1 hf).1
    have hdi := dok_innF 3000000 (rdS x) d i1 hf hd
    generalize innF 3000000 (rdS x) d = p at hi hdi ⊢
    unfold finS
    split
    · exact hdi
    · exact dok_putR hdi hi.s0 hi.s1 hi.e0 hi.s.e1 hi.s.nt.s0 hi.s.nt.s1 hi.s.nt.s0 hi.s.nt.s1
theorem dok_outF : ∀ (g : Nat) (x : NT) (d : TD), SOk x → DOk d → DOk (outF g x d).2
  | 0, x, d, _, hd => hd
  | g + 1, x, d, h, hd => by
    simp only [outF]
    split
    · exact hd
    · rename_i hne
      exact dok_outF g _ _ (outS_ok d h hne).1 (dok_outS h hd)
theorem ntr_ok (fr t : List Nat) (rev del : Bool) (hf : ∀ r ∈ fr, r ≤ 1114111) (ht : ∀ r ∈ t, r ≤ 1114111) : DOk (ntr fr t rev del).1 ∧ 0 ≤ (ntr fr t rev del).2 ∧ (ntr fr t rev del).2 ≤ 1114111 ∧ cnt (ntr fr t rev del).1 ≤ fr.length * 4000000 + 1 := by
  have h0 := nt0_ok fr t rev del hf ht
  have hd0 : DOk td0 := ⟨fun r c h => by simp [td0] at h, fun x h => by simp [td0] at h⟩
  obtain ⟨h1, h2⟩ := outF_ok fr.length _ td0 h0
  have h3 := dok_outF fr.length _ td0 h0 hd0
  unfold ntr
  generalize outF fr.length (nt0 fr t rev del) td0 = p at h1 h2 h3
  have hc : cnt td0 = 0 := rfl
  unfold trEnd
  refine ⟨?_, h1.nt.s0, h1.nt.s1, ?_⟩
  · simp only
    split
    · exact dok_put h3 h1.nt.s0 h1.nt.s1
    · exact h3
  · simp only
    split
    · rw [cnt_put]; omega
    · omega
theorem frL_len (s : List UInt8) : (rnsL (frL s)).length ≤ s.length := by
  unfold rnsL frL
  rw [List.length_map]
  have h := segs_length_le (if s.head? = some 94 then s.tail else s)
  have : (if s.head? = some 94 then s.tail else s).length ≤ s.length := by split; simp; exact Nat.le_refl _
  omega
theorem ntrL_ok (s t : List UInt8) (hs : s.length ≤ 2000) : DOk (ntrL s t).1 ∧ 0 ≤ (ntrL s t).2 ∧ (ntrL s t).2 ≤ 1114111 ∧ (ntrL s t).1.R.length ≤ 10000000000 := by
  obtain ⟨h1, h2, h3, h4⟩ := ntr_ok (rnsL (frL s)) (rnsL t) (revL s) t.isEmpty (rns_le _) (rns_le _)
  have := frL_len s
  refine ⟨h1, h2, h3, ?_⟩
  have e : (ntrL s t).1.R.length ≤ cnt (ntrL s t).1 := by unfold cnt; omega
  have e2 : cnt (ntrL s t).1 ≤ (rnsL (frL s)).length * 4000000 + 1 := h4
  omega
end Go.Proofs.YtdgaehkfdaacjaaDoor
