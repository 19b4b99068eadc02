/- NewTranslator's machine: what stays true, and that its rounds end. -/
import Derived.Test.YtdgaehkfdaacjaaDoorTrMem
set_option linter.unusedVariables false
namespace Go.Proofs.YtdgaehkfdaacjaaDoor
open Plain

structure SOk (x : NT) : Prop where
  nt : NtOk x
  fr : ∀ r ∈ x.fr, r ≤ 1114111
  e0 : -1 ≤ x.fe
  e1 : x.fe ≤ 1114111
structure IOk (x : NT) : Prop where
  s : SOk x
  s0 : 0 ≤ x.fs
  s1 : x.fs ≤ 1114111
  e0 : 0 ≤ x.fe
  st : x.fst = 1 ∧ x.fs ≤ x.fe ∨ x.fst = -1 ∧ x.fe ≤ x.fs
def far (x : NT) : Nat := (x.fe - x.fs).natAbs
def cnt (d : TD) : Nat := d.sg.length + d.R.length
theorem cnt_put (d : TD) (a c : Int) : cnt (put d a c) = cnt d + 1 := by simp [cnt, put]; omega
theorem cnt_putR (d : TD) (a b c e : Int) : cnt (putR d a b c e) = cnt d + 1 := by simp [cnt, putR]; omega
theorem IOk.updS {x : NT} (h : IOk x) : IOk (upd x) := by
  obtain ⟨h1, h2, h3, h4⟩ := upd_fr x
  have hu := upd_ok h.s.nt
  refine ⟨⟨hu, by rw [h1]; exact h.s.fr, by rw [h3]; exact h.s.e0, by rw [h3]; exact h.s.e1⟩, by rw [h2]; exact h.s0, by rw [h2]; exact h.s1, by rw [h3]; exact h.e0, by rw [h2, h3, h4]; exact h.st⟩
theorem SOk.updS {x : NT} (h : SOk x) : SOk (upd x) := by
  obtain ⟨h1, h2, h3, h4⟩ := upd_fr x
  exact ⟨upd_ok h.nt, by rw [h1]; exact h.fr, by rw [h3]; exact h.e0, by rw [h3]; exact h.e1⟩
theorem NtOk.nums {x y : NT} (h : NtOk x) (h1 : y.tp = x.tp) (h2 : y.ts = x.ts) (h3 : y.te = x.te) (h4 : y.tst = x.tst) : NtOk y := by
  obtain ⟨r1, r2, r3, r4, r5, r6⟩ := h
  exact ⟨by rw [h1]; exact r1, by rw [h2]; exact r2, by rw [h2]; exact r3, by rw [h3]; exact r4, by rw [h3]; exact r5, by rw [h2, h3, h4]; exact r6⟩
theorem IOk.setFs {x : NT} (h : IOk x) {v : Int} (h0 : 0 ≤ v) (h1 : v ≤ 1114111) (h2 : x.fst = 1 ∧ v ≤ x.fe ∨ x.fst = -1 ∧ x.fe ≤ v) : IOk { x with fs := v } :=
  ⟨⟨h.s.nt.nums rfl rfl rfl rfl, h.s.fr, h.s.e0, h.s.e1⟩, h0, h1, h.e0, h2⟩
theorem IOk.setTs {x : NT} (h : IOk x) {v : Int} (ho : NtOk { x with ts := v }) : IOk { x with ts := v } :=
  ⟨⟨ho, h.s.fr, h.s.e0, h.s.e1⟩, h.s0, h.s1, h.e0, h.st⟩
/-- the sizes of both ranges, and the places that a round comes to -/
theorem IOk.sizes {x : NT} (h : IOk x) (hte : x.te ≠ -1) (hne : x.fs ≠ x.fe) : (x.fe - x.fs) * x.fst = (far x : Int) ∧ 1 ≤ far x ∧ far x ≤ 1114111 ∧
    (x.tst ≠ 0 → 0 ≤ (x.te - x.ts) * x.tst ∧ (x.te - x.ts) * x.tst ≤ 1114111 ∧ (x.tst = 1 ∧ x.ts ≤ x.te ∧ (x.te - x.ts) * x.tst = x.te - x.ts ∨ x.tst = -1 ∧ x.te ≤ x.ts ∧ (x.te - x.ts) * x.tst = x.ts - x.te)) := by
  have hs := h.st
  have h0 := h.s0
  have h1 := h.s1
  have h2 := h.e0
  have h3 := h.s.e1
  have ht := h.s.nt.st
  have t0 := h.s.nt.s0
  have t1 := h.s.nt.s1
  have t2 := h.s.nt.e0
  have t3 := h.s.nt.e1
  unfold far
  refine ⟨?_, by omega, by omega, fun hz => ?_⟩
  · rcases hs with ⟨e, hs⟩ | ⟨e, hs⟩
    · rw [e]; omega
    · rw [e]; omega
  · rcases ht with e | ⟨e, ht⟩ | ⟨e, ht⟩
    · exact absurd e hz
    · rw [e, Int.mul_one]; omega
    · rw [e, Int.mul_neg_one]; omega
/-- .. if the second range is the shorter one -/
theorem IOk.jump {x : NT} (h : IOk x) (hte : x.te ≠ -1) (hne : x.fs ≠ x.fe) (hz : x.tst ≠ 0) (hlt : (x.te - x.ts) * x.tst < (x.fe - x.fs) * x.fst) :
    0 ≤ x.fs + (x.te - x.ts) * x.tst * x.fst ∧ x.fs + (x.te - x.ts) * x.tst * x.fst ≤ 1114111 ∧ -1114111 ≤ (x.te - x.ts) * x.tst * x.fst ∧ (x.te - x.ts) * x.tst * x.fst ≤ 1114111 ∧
    IOk { x with fs := x.fs + (x.te - x.ts) * x.tst * x.fst + x.fst, ts := x.te } ∧ far { x with fs := x.fs + (x.te - x.ts) * x.tst * x.fst + x.fst, ts := x.te } < far x := by
  obtain ⟨k1, k2, k3, k4⟩ := h.sizes hte hne
  obtain ⟨k5, k6, k7⟩ := k4 hz
  have hs := h.st
  have h0 := h.s0
  have h1 := h.s1
  have h2 := h.e0
  have h3 := h.s.e1
  have t0 := h.s.nt.s0
  have t1 := h.s.nt.s1
  have t2 := h.s.nt.e0
  have t3 := h.s.nt.e1
  have ho : NtOk { x with ts := x.te } := by
    refine ⟨h.s.nt.rs, ?_, ?_, t2, t3, ?_⟩
    · show 0 ≤ x.te; omega
    · show x.te ≤ 1114111; omega
    · show x.tst = 0 ∨ x.tst = 1 ∧ (x.te = -1 ∨ x.te ≤ x.te) ∨ x.tst = -1 ∧ (x.te = -1 ∨ 0 ≤ x.te ∧ x.te ≤ x.te)
      omega
  have hi := h.setTs ho
  obtain ⟨T, hT⟩ : ∃ T, (x.te - x.ts) * x.tst = T := ⟨_, rfl⟩
  rw [hT] at hlt k5 k6
  rw [hT]
  rw [k1] at hlt
  unfold far at hlt k2 k3 ⊢
  rcases hs with ⟨e, hs⟩ | ⟨e, hs⟩
  · have eT : T * x.fst = T := by rw [e, Int.mul_one]
    rw [eT]
    refine ⟨by omega, by omega, by omega, by omega, ?_, ?_⟩
    · exact hi.setFs (v := x.fs + T + x.fst) (by omega) (by omega) (.inl ⟨e, by show x.fs + T + x.fst ≤ x.fe; omega⟩)
    · show (x.fe - (x.fs + T + x.fst)).natAbs < _
      omega
  · have eT : T * x.fst = -T := by rw [e, Int.mul_neg_one]
    rw [eT]
    refine ⟨by omega, by omega, by omega, by omega, ?_, ?_⟩
    · exact hi.setFs (v := x.fs + -T + x.fst) (by omega) (by omega) (.inr ⟨e, by show x.fe ≤ x.fs + -T + x.fst; omega⟩)
    · show (x.fe - (x.fs + -T + x.fst)).natAbs < _
      omega
/-- .. if it is not -/
theorem IOk.last {x : NT} (h : IOk x) (hte : x.te ≠ -1) (hne : x.fs ≠ x.fe) (hz : x.tst ≠ 0) (hlt : ¬ (x.te - x.ts) * x.tst < (x.fe - x.fs) * x.fst) :
    0 ≤ x.ts + (x.fe - x.fs) * x.fst * x.tst ∧ x.ts + (x.fe - x.fs) * x.fst * x.tst ≤ 1114111 ∧ -1114111 ≤ (x.fe - x.fs) * x.fst * x.tst ∧ (x.fe - x.fs) * x.fst * x.tst ≤ 1114111 ∧
    NtOk { x with ts := x.ts + (x.fe - x.fs) * x.fst * x.tst } ∧ IOk { x with fs := x.fe, ts := x.ts + (x.fe - x.fs) * x.fst * x.tst } := by
  obtain ⟨k1, k2, k3, k4⟩ := h.sizes hte hne
  obtain ⟨k5, k6, k7⟩ := k4 hz
  have hs := h.st
  have h0 := h.s0
  have h1 := h.s1
  have h2 := h.e0
  have h3 := h.s.e1
  have t0 := h.s.nt.s0
  have t1 := h.s.nt.s1
  have t2 := h.s.nt.e0
  have t3 := h.s.nt.e1
  rw [k1] at hlt ⊢
  have key : NtOk { x with ts := x.ts + (far x : Int) * x.tst } ∧ 0 ≤ x.ts + (far x : Int) * x.tst ∧ x.ts + (far x : Int) * x.tst ≤ 1114111 ∧ -1114111 ≤ (far x : Int) * x.tst ∧ (far x : Int) * x.tst ≤ 1114111 := by
    rcases k7 with ⟨e, k7, k8⟩ | ⟨e, k7, k8⟩
    · rw [k8] at hlt
      have eT : (far x : Int) * x.tst = far x := by rw [e, Int.mul_one]
      rw [eT]
      refine ⟨⟨h.s.nt.rs, by show 0 ≤ x.ts + (far x : Int); omega, by show x.ts + (far x : Int) ≤ 1114111; omega, t2, t3, .inr (.inl ⟨e, .inr (by show x.ts + (far x : Int) ≤ x.te; omega)⟩)⟩, by omega, by omega, by omega, by omega⟩
    · rw [k8] at hlt
      have eT : (far x : Int) * x.tst = -(far x : Int) := by rw [e, Int.mul_neg_one]
      rw [eT]
      refine ⟨⟨h.s.nt.rs, by show 0 ≤ x.ts + -(far x : Int); omega, by show x.ts + -(far x : Int) ≤ 1114111; omega, t2, t3, .inr (.inr ⟨e, .inr ⟨by show 0 ≤ x.te; omega, by show x.te ≤ x.ts + -(far x : Int); omega⟩⟩)⟩, by omega, by omega, by omega, by omega⟩
  obtain ⟨q1, q2, q3, q4, q5⟩ := key
  exact ⟨q2, q3, q4, q5, q1, (h.setTs q1).setFs (v := x.fe) h2 h3 (by show x.fst = 1 ∧ x.fe ≤ x.fe ∨ x.fst = -1 ∧ x.fe ≤ x.fe; omega)⟩
/-- .. if the second one is a single character -/
theorem IOk.next {x : NT} (h : IOk x) (hne : x.fs ≠ x.fe) : 0 ≤ x.fs + x.fst ∧ x.fs + x.fst ≤ 1114111 ∧ IOk { upd x with fs := x.fs + x.fst } ∧ far { upd x with fs := x.fs + x.fst } < far x := by
  have hs := h.st
  have h0 := h.s0
  have h1 := h.s1
  have h2 := h.e0
  have h3 := h.s.e1
  obtain ⟨u1, u2, u3, u4⟩ := upd_fr x
  unfold far
  refine ⟨by omega, by omega, h.updS.setFs (by omega) (by omega) (by rw [u3, u4]; omega), ?_⟩
  show ((upd x).fe - (x.fs + x.fst)).natAbs < _
  rw [u3]
  omega
theorem far_upd (x : NT) : far (upd x) = far x := by
  obtain ⟨u1, u2, u3, u4⟩ := upd_fr x
  unfold far
  rw [u2, u3]
theorem innS_ok {x : NT} (d : TD) (h : IOk x) (hte : x.te ≠ -1) (hne : x.fs ≠ x.fe) :
    IOk (innS x d).1 ∧ ((innS x d).2.2 = true → far (innS x d).1 < far x) ∧ ((innS x d).2.2 = false → (innS x d).1.fs = (innS x d).1.fe) ∧ cnt (innS x d).2.1 ≤ cnt d + 2 ∧ (innS x d).1.fr = x.fr := by
  obtain ⟨u1, u2, u3, u4⟩ := upd_fr x
  unfold innS
  split
  · obtain ⟨n1, n2, n3, n4⟩ := h.next hne
    split
    · refine ⟨n3.updS, fun _ => by rw [far_upd]; exact n4, fun e => (by cases e), ?_, (upd_fr _).1.trans u1⟩
      simp only [cnt_put]
      omega
    · refine ⟨n3, fun _ => n4, fun e => (by cases e), ?_, u1⟩
      simp only [cnt_put]
      omega
  · rename_i hz
    split
    · rename_i hlt
      obtain ⟨j1, j2, j3, j4, j5, j6⟩ := h.jump hte hne hz hlt
      split
      · refine ⟨j5.updS.updS, fun _ => by rw [far_upd, far_upd]; exact j6, fun e => (by cases e), ?_, (upd_fr _).1.trans (upd_fr _).1⟩
        simp only [cnt_put, cnt_putR]
        omega
      · refine ⟨j5.updS, fun _ => by rw [far_upd]; exact j6, fun e => (by cases e), ?_, (upd_fr _).1⟩
        simp only [cnt_putR]
        omega
    · rename_i hlt
      obtain ⟨j1, j2, j3, j4, j5, j6⟩ := h.last hte hne hz hlt
      refine ⟨j6.updS, fun e => (by cases e), fun _ => ?_, ?_, (upd_fr _).1⟩
      · rw [(upd_fr _).2.1, (upd_fr _).2.2.1]
      · simp only [cnt_putR]
        omega
theorem innF_ok : ∀ (g : Nat) (x : NT) (d : TD), IOk x → far x < g → IOk (innF g x d).1 ∧ cnt (innF g x d).2 ≤ cnt d + 2 * far x ∧ (innF g x d).1.fr = x.fr ∧ ∀ g', far x < g' → innF g' x d = innF g x d
  | 0, _, _, _, h => by omega
  | g + 1, x, d, h, hg => by
    have key : ∀ g', far x < g' → innF g' x d = (if x.te ≠ -1 ∧ x.fs ≠ x.fe then (if (innS x d).2.2 = true then innF (g' - 1) (innS x d).1 (innS x d).2.1 else ((innS x d).1, (innS x d).2.1)) else (x, d)) := by
      intro g' hg'
      cases g' with
      | zero => omega
      | succ n => rfl
    rw [key (g + 1) hg, Nat.add_sub_cancel]
    by_cases hc : x.te ≠ -1 ∧ x.fs ≠ x.fe
    · obtain ⟨i1, i2, i3, i4, i5⟩ := innS_ok d h hc.1 hc.2
      have hf : 1 ≤ far x := (h.sizes hc.1 hc.2).2.1
      rw [if_pos hc]
      by_cases hb : (innS x d).2.2 = true
      · rw [if_pos hb]
        have hlt := i2 hb
        obtain ⟨a1, a2, a3, a4⟩ := innF_ok g _ (innS x d).2.1 i1 (by omega)
        refine ⟨a1, by omega, a3.trans i5, fun g' hg' => ?_⟩
        rw [key g' hg', if_pos hc, if_pos hb]
        exact a4 _ (by omega)
      · rw [if_neg hb]
        refine ⟨i1, by simp only; omega, i5, fun g' hg' => ?_⟩
        rw [key g' hg', if_pos hc, if_neg hb]
    · rw [if_neg hc]
      refine ⟨h, by simp only; omega, rfl, fun g' hg' => ?_⟩
      rw [key g' hg', if_neg hc]
theorem innF_stop (k : Nat) (x : NT) (d : TD) (h : ¬ (x.te ≠ -1 ∧ x.fs ≠ x.fe)) : innF k x d = (x, d) := by
  cases k with
  | zero => rfl
  | succ n => simp only [innF, if_neg h]
theorem innF_go (k : Nat) (x : NT) (d : TD) (hk : far x < k) (h1 : x.te ≠ -1) (h2 : x.fs ≠ x.fe) (h : IOk x) : innF k x d = if (innS x d).2.2 = true then innF (k - 1) (innS x d).1 (innS x d).2.1 else ((innS x d).1, (innS x d).2.1) := by
  cases k with
  | zero => omega
  | succ n => simp only [innF, if_pos (And.intro h1 h2), Nat.add_sub_cancel]
theorem rdS_ok {x : NT} (h : SOk x) : SOk (rdS x) ∧ 0 ≤ (rdS x).fs ∧ (rdS x).fs ≤ 1114111 ∧ ((rdS x).fst ≠ 0 → IOk (rdS x) ∧ (rdS x).fs ≠ (rdS x).fe) ∧ (x.fr ≠ [] → (rdS x).fr.length < x.fr.length) := by
  have k := nrr_ok h.fr h.e0 h.e1
  have hs : SOk (rdS x) := ⟨h.nt.nums rfl rfl rfl rfl, k.rs, k.e0, k.e1⟩
  have hst : (rdS x).fst = 0 ∨ (rdS x).fst = 1 ∧ (rdS x).fs < (rdS x).fe ∨ (rdS x).fst = -1 ∧ (rdS x).fe < (rdS x).fs ∧ 0 ≤ (rdS x).fe := k.st
  have s0 : 0 ≤ (rdS x).fs := k.s0
  have s1 : (rdS x).fs ≤ 1114111 := k.s1
  refine ⟨hs, s0, s1, fun hz => ⟨⟨hs, s0, s1, ?_, ?_⟩, ?_⟩, fun hne => (nrrG_len x.fr x.fe false false).2 hne⟩
  · omega
  · omega
  · omega
theorem finS_ok {x : NT} (d : TD) (h : SOk x) : SOk (finS x d).1 ∧ cnt (finS x d).2 ≤ cnt d + 1 ∧ (finS x d).1.fr = x.fr := by
  unfold finS
  have e : SOk { x with fe := -1 } := ⟨h.nt.nums rfl rfl rfl rfl, h.fr, by simp, by simp⟩
  split
  · exact ⟨e, by simp only; omega, rfl⟩
  · exact ⟨e, by simp only [cnt_putR]; omega, rfl⟩
theorem outS_ok {x : NT} (d : TD) (h : SOk x) (hne : x.fr ≠ []) : SOk (outS x d).1 ∧ (outS x d).1.fr.length < x.fr.length ∧ cnt (outS x d).2 ≤ cnt d + 4000000 := by
  obtain ⟨k1, k2, k3, k4, k5⟩ := rdS_ok h
  have k5 := k5 hne
  unfold outS
  split
  · refine ⟨k1.updS, by rw [(upd_fr _).1]; exact k5, ?_⟩
    simp only [cnt_put]
    omega
  · rename_i hz
    obtain ⟨i1, i2⟩ := k4 hz
    have hf : far (rdS x) < 3000000 := by
      unfold far
      have := i1.s0
      have := i1.s1
      have := i1.e0
      have := i1.s.e1
      omega
    have hf2 : far (rdS x) ≤ 1114111 := by
      unfold far
      have := i1.s0
      have := i1.s1
      have := i1.e0
      have := i1.s.e1
      omega
    obtain ⟨a1, a2, a3, a4⟩ := innF_ok 3000000 (rdS x) d i1 hf
    obtain ⟨b1, b2, b3⟩ := finS_ok (innF 3000000 (rdS x) d).2 a1.s
    refine ⟨b1, by rw [b3, a3]; exact k5, by omega⟩
theorem outF_fuel : ∀ (g : Nat) (x : NT) (d : TD), SOk x → x.fr.length ≤ g → ∀ g', x.fr.length ≤ g' → outF g' x d = outF g x d
  | 0, x, d, h, hg, g', hg' => by
    have : x.fr = [] := List.eq_nil_of_length_eq_zero (by omega)
    cases g' with
    | zero => rfl
    | succ n => simp [outF, this]
  | g + 1, x, d, h, hg, g', hg' => by
    by_cases hne : x.fr = []
    · cases g' with
      | zero => simp [outF, hne]
      | succ n => simp [outF, hne]
    · cases g' with
      | zero => exact absurd (List.eq_nil_of_length_eq_zero (by omega)) hne
      | succ n =>
        obtain ⟨o1, o2, o3⟩ := outS_ok d h hne
        simp only [outF, if_neg hne]
        exact outF_fuel g _ _ o1 (by omega) n (by omega)
theorem outF_ok : ∀ (g : Nat) (x : NT) (d : TD), SOk x → SOk (outF g x d).1 ∧ cnt (outF g x d).2 ≤ cnt d + g * 4000000
  | 0, x, d, h => ⟨h, by simp [outF]⟩
  | g + 1, x, d, h => by
    simp only [outF]
    split
    · exact ⟨h, by simp only; omega⟩
    · rename_i hne
      obtain ⟨o1, o2, o3⟩ := outS_ok d h hne
      obtain ⟨a1, a2⟩ := outF_ok g _ (outS x d).2 o1
      exact ⟨a1, by omega⟩
end Go.Proofs.YtdgaehkfdaacjaaDoor
