/- Texts whose signs of expressions stand in whole expressions alone: what they expand to has no such signs, and it is not too long. -/
import Derived.Test.YtackciefmdiphaaGreatDoorQSim0
import Derived.Test.YtackciefmdiphaaGreatDoorItems
import Derived.Test.YtackciefmdiphaaGreatDoorEqPr
set_option linter.unusedVariables false
namespace Go.Proofs.YtackciefmdiphaaGreatDoor
open Go.RowKit Plain Go.Maps

/-- whole: 0 without, 1 behind a dollar sign, 2 within an expression -/
def wh : Nat → List UInt8 → Bool
  | 0, [] => true
  | 0, c :: r => if c = 123 ∨ c = 125 then false else if c = 36 then wh 1 r else wh 0 r
  | 1, [] => false
  | 1, c :: r => if c = 123 then wh 2 r else false
  | _ + 2, [] => true
  | _ + 2, c :: r => if c = 125 then wh 0 r else if c = 36 ∨ c = 123 then false else wh 2 r
/-- dollar signs -/
def c36 : List UInt8 → Nat
  | [] => 0
  | c :: r => (if c = 36 then 1 else 0) + c36 r
theorem c36_app : ∀ (a b : List UInt8), c36 (a ++ b) = c36 a + c36 b := by
  intro a b
  induction a with
  | nil => simp [c36]
  | cons c r ih => simp only [List.cons_append, c36, ih]; omega
theorem c36_none {a : List UInt8} (h : ∀ c ∈ a, c ≠ 36) : c36 a = 0 := by
  induction a with
  | nil => rfl
  | cons c r ih => simp only [c36, if_neg (h c List.mem_cons_self), ih (fun x hx => h x (List.mem_cons_of_mem _ hx))]
theorem c36_zero {a : List UInt8} (h : c36 a = 0) : ∀ c ∈ a, c ≠ 36 := by
  induction a with
  | nil => intro c hc; simp at hc
  | cons c r ih =>
    intro x hx
    simp only [c36] at h
    rcases List.mem_cons.1 hx with rfl | hx
    · intro e; rw [if_pos e] at h; omega
    · exact ih (by omega) x hx
/-- within: a name, and a brace or the end -/
theorem wh2_split : ∀ (r : List UInt8), wh 2 r = true → (∀ c ∈ r, c ≠ 125) ∨ ∃ key q, r = key ++ 125 :: q ∧ (∀ c ∈ key, c ≠ 125 ∧ c ≠ 36) ∧ wh 0 q = true := by
  intro r
  induction r with
  | nil => intro _; left; intro c hc; simp at hc
  | cons c r ih =>
    intro h
    unfold wh at h
    by_cases h1 : c = 125
    · rw [if_pos h1] at h
      right
      exact ⟨[], r, by rw [h1]; rfl, fun x hx => by simp at hx, h⟩
    · rw [if_neg h1] at h
      by_cases h2 : c = 36 ∨ c = 123
      · rw [if_pos h2] at h; cases h
      · rw [if_neg h2] at h
        rcases ih h with h3 | ⟨key, q, rfl, h3, h4⟩
        · left
          intro x hx
          rcases List.mem_cons.1 hx with rfl | hx
          · exact h1
          · exact h3 x hx
        · right
          refine ⟨c :: key, q, rfl, ?_, h4⟩
          intro x hx
          rcases List.mem_cons.1 hx with rfl | hx
          · exact ⟨h1, fun e => h2 (.inl e)⟩
          · exact h3 x hx
/-- without: no dollar sign at all, or an expression -/
theorem wh0_split : ∀ (r : List UInt8), wh 0 r = true → (∀ c ∈ r, c ≠ 36) ∨ ∃ pre q, r = pre ++ 36 :: 123 :: q ∧ (∀ c ∈ pre, c ≠ 36) ∧ wh 2 q = true := by
  intro r
  induction r with
  | nil => intro _; left; intro c hc; simp at hc
  | cons c r ih =>
    intro h
    unfold wh at h
    by_cases h1 : c = 123 ∨ c = 125
    · rw [if_pos h1] at h; cases h
    · rw [if_neg h1] at h
      by_cases h2 : c = 36
      · rw [if_pos h2] at h
        cases r with
        | nil => simp [wh] at h
        | cons d r =>
          unfold wh at h
          by_cases h3 : d = 123
          · rw [if_pos h3] at h
            right
            exact ⟨[], r, by rw [h2, h3]; rfl, fun x hx => by simp at hx, h⟩
          · rw [if_neg h3] at h; cases h
      · rw [if_neg h2] at h
        rcases ih h with h3 | ⟨pre, q, rfl, h3, h4⟩
        · left
          intro x hx
          rcases List.mem_cons.1 hx with rfl | hx
          · exact h2
          · exact h3 x hx
        · right
          refine ⟨c :: pre, q, rfl, ?_, h4⟩
          intro x hx
          rcases List.mem_cons.1 hx with rfl | hx
          · exact h2
          · exact h3 x hx
theorem zixN_dl (s : ByteArray) (pre r : List UInt8) (hs : s.data.toList = pre ++ 36 :: 123 :: r) (hk : ∀ c ∈ pre, c ≠ 36) : ∀ (f i : Nat), i ≤ pre.length → pre.length < f + i → zixN s dlB f i = some pre.length := by
  have hsz : s.size = pre.length + (r.length + 2) := by rw [Lib.size_eq, hs]; simp
  intro f
  induction f with
  | zero => intro i h1 h2; omega
  | succ f ih =>
    intro i h1 h2
    unfold zixN
    have hb1 : dlB.size = 2 := rfl
    rw [hb1, if_pos (by omega)]
    by_cases hi : i = pre.length
    · subst hi
      have hb : ((s.extract pre.length (pre.length + 2)).toList == dlB.toList) = true := by
        rw [ByteArray.toList_eq, ByteArray.toList_eq, ext_list, hs, List.drop_left, show pre.length + 2 - pre.length = 2 by omega]
        rfl
      rw [if_pos hb]
    · have hb : ¬ ((s.extract i (i + 2)).toList == dlB.toList) = true := by
        intro e
        have e1 := eq_of_beq e
        rw [ByteArray.toList_eq, ByteArray.toList_eq, ext_list, hs, show i + 2 - i = 2 by omega, List.drop_append_of_le_length (by omega)] at e1
        obtain ⟨c, r', hc⟩ : ∃ c r', pre.drop i = c :: r' := by
          cases hd : pre.drop i with
          | nil => have := congrArg List.length hd; rw [List.length_drop] at this; simp at this; omega
          | cons c r' => exact ⟨c, r', rfl⟩
        rw [hc] at e1
        have e2 : c = 36 := by
          have : c :: (r' ++ 36 :: 123 :: r).take 1 = [36, 123] := e1
          injection this
        exact hk c (List.mem_of_mem_drop (by rw [hc]; exact List.mem_cons_self)) e2
      rw [if_neg hb]
      exact ih _ (by omega) (by omega)
theorem zix_dl {s : ByteArray} {pre r : List UInt8} (hs : s.data.toList = pre ++ 36 :: 123 :: r) (hk : ∀ c ∈ pre, c ≠ 36) : zix s dlB = some pre.length := by
  have hsz : s.size = pre.length + (r.length + 2) := by rw [Lib.size_eq, hs]; simp
  exact zixN_dl s pre r hs hk _ 0 (Nat.zero_le _) (by omega)
theorem zixN_brn (s : ByteArray) (h : ∀ c ∈ s.data.toList, c ≠ 125) : ∀ (f i : Nat), zixN s brB f i = none := by
  intro f
  induction f with
  | zero => intro i; rfl
  | succ f ih =>
    intro i
    unfold zixN
    split
    · rename_i hi
      have hb : ¬ ((s.extract i (i + brB.size)).toList == brB.toList) = true := by
        intro e
        have e1 := eq_of_beq e
        rw [ByteArray.toList_eq, ByteArray.toList_eq, ext_list] at e1
        have : (125 : UInt8) ∈ (s.data.toList.drop i).take (i + brB.size - i) := by rw [e1]; decide
        exact h 125 (List.mem_of_mem_drop (List.mem_of_mem_take this)) rfl
      rw [if_neg hb]
      exact ih _
    · rfl
theorem zix_brn {s : ByteArray} (h : ∀ c ∈ s.data.toList, c ≠ 125) : zix s brB = none := zixN_brn s h _ _
/-- no dollar sign: the text itself -/
theorem expF_none (D : ByteArray → ByteArray) (f : Nat) (keys : List ByteArray) (s : ByteArray) (hz : s.size ≤ 1152921504606846976) (hk : keys.length ≤ 64) (h : ∀ c ∈ s.data.toList, c ≠ 36) : expF D (f + 1) keys s = some (some s) := by
  unfold expF
  rw [if_pos hz, if_neg (by omega), zix_none h]
theorem expF_deep (D : ByteArray → ByteArray) (f : Nat) (keys : List ByteArray) (s : ByteArray) (hz : s.size ≤ 1152921504606846976) (hk : 64 < keys.length) : expF D (f + 1) keys s = some none := by
  unfold expF
  rw [if_pos hz, if_pos hk]
theorem expF_open (D : ByteArray → ByteArray) (f : Nat) (keys : List ByteArray) (s : ByteArray) (pre q : List UInt8) (hz : s.size ≤ 1152921504606846976) (hk : keys.length ≤ 64) (hs : s.data.toList = pre ++ 36 :: 123 :: q) (hp : ∀ c ∈ pre, c ≠ 36) (hq : ∀ c ∈ q, c ≠ 125) : expF D (f + 1) keys s = some none := by
  have hsz : s.size = pre.length + (q.length + 2) := by rw [Lib.size_eq, hs]; simp
  have h3 : (s.extract (pre.length + 2) s.size).data.toList = q := by
    rw [ext_list, hs, ← List.drop_drop, List.drop_left, hsz]
    show List.take _ q = q
    rw [List.take_of_length_le (by omega)]
  unfold expF
  rw [if_pos hz, if_neg (by omega), zix_dl hs hp]
  dsimp only
  rw [zix_brn (by rw [h3]; exact hq)]
theorem expF_step (D : ByteArray → ByteArray) (f : Nat) (keys : List ByteArray) (s : ByteArray) (pre key q : List UInt8) (hz : s.size ≤ 1152921504606846976) (hk : keys.length ≤ 64) (hs : s.data.toList = pre ++ 36 :: 123 :: (key ++ 125 :: q)) (hp : ∀ c ∈ pre, c ≠ 36) (hq : ∀ c ∈ key, c ≠ 125) :
    expF D (f + 1) keys s = if memK (baL key) keys then some none else match expF D f (keys ++ [baL key]) (D (baL key)) with
      | none => none
      | some none => some none
      | some (some v) => expF D f keys (baL (pre ++ v.data.toList ++ q)) := by
  have hsz : s.size = pre.length + (key.length + q.length + 3) := by rw [Lib.size_eq, hs]; simp; omega
  have h3 : (s.extract (pre.length + 2) s.size).data.toList = key ++ 125 :: q := by
    rw [ext_list, hs, ← List.drop_drop, List.drop_left, hsz]
    show List.take _ (key ++ 125 :: q) = _
    rw [List.take_of_length_le (by simp; omega)]
  have hkey : s.extract (pre.length + 2) (pre.length + 2 + key.length) = baL key := by
    apply ba_ext
    rw [ext_list, hs, baL_list, ← List.drop_drop, List.drop_left, show pre.length + 2 + key.length - (pre.length + 2) = key.length by omega]
    show List.take key.length (key ++ 125 :: q) = key
    rw [List.take_left]
  have hrest : (s.extract (pre.length + 2 + key.length + 1) s.size).data.toList = q := by
    rw [ext_list, hs, hsz, show pre.length + 2 + key.length + 1 = pre.length + (2 + (key.length + 1)) by omega, ← List.drop_drop, List.drop_left, ← List.drop_drop]
    show List.take _ (List.drop (key.length + 1) (key ++ 125 :: q)) = _
    rw [← List.drop_drop, List.drop_left]
    show List.take _ q = q
    rw [List.take_of_length_le (by omega)]
  have hpre : (s.extract 0 pre.length).data.toList = pre := by
    rw [ext_list, hs]
    show List.take (pre.length - 0) (pre ++ _) = _
    rw [Nat.sub_zero, List.take_left]
  have hcat : ∀ v : ByteArray, s.extract 0 pre.length ++ v ++ s.extract (pre.length + 2 + key.length + 1) s.size = baL (pre ++ v.data.toList ++ q) := fun v => by
    apply ba_ext
    rw [baL_list, ByteArray.data_append, ByteArray.data_append, Array.toList_append, Array.toList_append, hpre, hrest]
  rw [show expF D (f + 1) keys s = _ from by rw [expF]]
  rw [if_pos hz, if_neg (by omega), zix_dl hs hp]
  dsimp only
  rw [zix_br h3 hq]
  dsimp only
  rw [hkey]
  simp only [hcat]
  rfl
/-- the length that a value may come to, by the dollar signs that are left -/
def RR (T : Nat) : Nat := 8000 * 3 ^ T / 2 ^ T
theorem RR_all : ∀ T, T < 74 → (2000 ≤ RR T ∧ RR T ≤ 1000000000000000000) ∧ ∀ e, e < T + 1 → e = 0 ∨ 2000 + e * RR (T - e) ≤ RR T := by decide +kernel
theorem RR_mono_aux : ∀ T, T < 73 → RR T ≤ RR (T + 1) := by decide +kernel
theorem RR_mono : ∀ (T e : Nat), T + e < 74 → RR T ≤ RR (T + e) := by
  intro T e
  induction e with
  | zero => intro _; exact Nat.le_refl _
  | succ e ih => intro h; exact Nat.le_trans (ih (by omega)) (RR_mono_aux (T + e) (by omega))
theorem RR_step {T e : Nat} (hT : T < 74) (he : e ≤ T) : 2000 + e * RR (T - e) ≤ RR T := by
  obtain ⟨⟨h1, h2⟩, h3⟩ := RR_all T hT
  rcases h3 e (by omega) with rfl | h
  · omega
  · exact h
open Classical in
/-- the dollar signs of the values whose keys are not on the way -/
noncomputable def dsum (D : ByteArray → ByteArray) (path : List ByteArray) : List ByteArray → Nat
  | [] => 0
  | k :: r => (if k ∈ path then 0 else c36 (D k).data.toList) + dsum D path r
theorem dsum_mono (D : ByteArray → ByteArray) (path : List ByteArray) (x : ByteArray) : ∀ ks, dsum D (path ++ [x]) ks ≤ dsum D path ks := by
  intro ks
  induction ks with
  | nil => exact Nat.le_refl _
  | cons k r ih =>
    simp only [dsum]
    by_cases h : k ∈ path
    · rw [if_pos h, if_pos (List.mem_append_left _ h)]; omega
    · rw [if_neg h]
      split <;> omega
theorem dsum_take (D : ByteArray → ByteArray) (path : List ByteArray) (x : ByteArray) (hx : x ∉ path) : ∀ ks, x ∈ ks → dsum D (path ++ [x]) ks + c36 (D x).data.toList ≤ dsum D path ks := by
  intro ks
  induction ks with
  | nil => intro h; simp at h
  | cons k r ih =>
    intro h
    simp only [dsum]
    by_cases hk : k = x
    · subst hk
      rw [if_pos (List.mem_append_right _ (by simp)), if_neg hx]
      have := dsum_mono D path k r
      omega
    · have := ih (by
        rcases List.mem_cons.1 h with rfl | h
        · exact absurd rfl hk
        · exact h)
      by_cases h2 : k ∈ path
      · rw [if_pos h2, if_pos (List.mem_append_left _ h2)]; omega
      · rw [if_neg h2]
        split <;> omega
set_option maxRecDepth 100000 in
/-- THE LAW: whole values come to an end, and what they come to is not too long and has no dollar sign -/
theorem exp_ends (D : ByteArray → ByteArray) (ks : List ByteArray) (hw : ∀ k, wh 0 (D k).data.toList = true) (hl : ∀ k, (D k).size ≤ 2000) (hout : ∀ k, k ∉ ks → (D k).size = 0) :
    ∀ (n : Nat) (path : List ByteArray) (T : Nat), path.length + n = 65 → dsum D path ks ≤ T → T < 74 →
    ∀ (m : Nat) (pre r : List UInt8) (f : Nat) (s : ByteArray), c36 r ≤ m → wh 0 r = true → (∀ c ∈ pre, c ≠ 36) → pre.length + r.length + m * RR T ≤ 1152921504606846976 → n * 3000 + m + 1 ≤ f → s.data.toList = pre ++ r →
      ∃ o, expF D f path s = some o ∧ ∀ v, o = some v → (∀ c ∈ v.data.toList, c ≠ 36) ∧ v.size ≤ pre.length + r.length + m * RR T := by
  intro n
  induction n with
  | zero =>
    intro path T hn hd hT m pre r f s hc hwr hp hb hf hs
    obtain ⟨f, rfl⟩ : ∃ g, f = g + 1 := ⟨f - 1, by omega⟩
    have hsz : s.size = pre.length + r.length := by rw [Lib.size_eq, hs]; simp
    exact ⟨none, expF_deep D f path s (by omega) (by omega), fun v h => by cases h⟩
  | succ n ihn =>
    intro path T hn hd hT m
    induction m with
    | zero =>
      intro pre r f s hc hwr hp hb hf hs
      obtain ⟨f, rfl⟩ : ∃ g, f = g + 1 := ⟨f - 1, by omega⟩
      have hsz : s.size = pre.length + r.length := by rw [Lib.size_eq, hs]; simp
      have h36 : ∀ c ∈ s.data.toList, c ≠ 36 := by
        intro c hcm
        rw [hs] at hcm
        rcases List.mem_append.1 hcm with h | h
        · exact hp c h
        · exact c36_zero (by omega) c h
      exact ⟨some s, expF_none D f path s (by omega) (by omega) h36, fun v h => by injection h with h; subst h; exact ⟨h36, by omega⟩⟩
    | succ m ihm =>
      intro pre r f s hc hwr hp hb hf hs
      obtain ⟨f, rfl⟩ : ∃ g, f = g + 1 := ⟨f - 1, by omega⟩
      have hsz : s.size = pre.length + r.length := by rw [Lib.size_eq, hs]; simp
      have hmul : (m + 1) * RR T = m * RR T + RR T := Nat.succ_mul _ _
      rcases wh0_split r hwr with h36 | ⟨pre2, q, rfl, hp2, hwq⟩
      · have h36 : ∀ c ∈ s.data.toList, c ≠ 36 := by
          intro c hcm
          rw [hs] at hcm
          rcases List.mem_append.1 hcm with h | h
          · exact hp c h
          · exact h36 c h
        exact ⟨some s, expF_none D f path s (by omega) (by omega) h36, fun v h => by injection h with h; subst h; exact ⟨h36, by omega⟩⟩
      · have hpp : ∀ c ∈ pre ++ pre2, c ≠ 36 := fun c h => (List.mem_append.1 h).elim (hp c) (hp2 c)
        rw [← List.append_assoc] at hs
        rcases wh2_split q hwq with hq | ⟨key, q2, rfl, hk2, hwq2⟩
        · exact ⟨none, expF_open D f path s (pre ++ pre2) q (by omega) (by omega) hs hpp hq, fun v h => by cases h⟩
        · have hst := expF_step D f path s (pre ++ pre2) key q2 (by omega) (by omega) hs hpp (fun c h => (hk2 c h).1)
          rw [hst]
          cases hmk : memK (baL key) path with
          | true => exact ⟨none, by rw [if_pos rfl], fun v h => by cases h⟩
          | false =>
            rw [if_neg (by simp)]
            have hnp : baL key ∉ path := fun h => by
              have : memK (baL key) path = true := by
                unfold memK
                rw [List.any_eq_true]
                exact ⟨_, h, by simp⟩
              rw [this] at hmk
              cases hmk
            simp only [List.length_append, List.length_cons] at hb
            have hlk : (D (baL key)).data.toList.length ≤ 2000 := by have := hl (baL key); rwa [Lib.size_eq] at this
            have hck : c36 (q2) + 1 ≤ m + 1 := by
              rw [c36_app] at hc
              have e1 : c36 (36 :: 123 :: (key ++ 125 :: q2)) = 1 + (0 + c36 (key ++ 125 :: q2)) := rfl
              rw [e1, c36_app] at hc
              have e2 : c36 (125 :: q2) = 0 + c36 q2 := rfl
              omega
            obtain ⟨e, he⟩ : ∃ e, c36 (D (baL key)).data.toList = e := ⟨_, rfl⟩
            obtain ⟨T', hT'1, hT'2⟩ : ∃ T', dsum D (path ++ [baL key]) ks ≤ T' ∧ T' + e = T := by
              by_cases hin : baL key ∈ ks
              · have := dsum_take D path _ hnp ks hin
                rw [he] at this
                exact ⟨T - e, by omega, by omega⟩
              · have h0 : c36 (D (baL key)).data.toList = 0 := by
                  have h1 := hout _ hin
                  rw [Lib.size_eq] at h1
                  rw [List.length_eq_zero_iff.1 h1]
                  rfl
                have := dsum_mono D path (baL key) ks
                exact ⟨T, by omega, by omega⟩
            have hst2 := RR_step (T := T) (e := e) hT (by omega)
            rw [show T - e = T' by omega] at hst2
            have hRb := ((RR_all T hT).1).2
            obtain ⟨o, ho, hov⟩ := ihn (path ++ [baL key]) T' (by simp; omega) hT'1 (by omega) e [] (D (baL key)).data.toList f (D (baL key)) (by omega) (hw _) (fun c h => by simp at h) (by simp only [List.length_nil]; omega) (by omega) (by simp)
            rw [ho]
            cases o with
            | none => exact ⟨none, rfl, fun v h => by cases h⟩
            | some v =>
              obtain ⟨hv1, hv2⟩ := hov v rfl
              simp only [List.length_nil] at hv2
              dsimp only
              have hvl : v.data.toList.length ≤ RR T := by rw [← Lib.size_eq]; omega
              obtain ⟨o2, ho2, hov2⟩ := ihm (pre ++ pre2 ++ v.data.toList) q2 f (baL (pre ++ pre2 ++ v.data.toList ++ q2)) (by omega) hwq2 (fun c h => (List.mem_append.1 h).elim (hpp c) (hv1 c)) (by simp only [List.length_append]; omega) (by omega) (baL_list _)
              refine ⟨o2, ho2, fun x hx => ?_⟩
              obtain ⟨g1, g2⟩ := hov2 x hx
              refine ⟨g1, ?_⟩
              simp only [List.length_append, List.length_cons] at g2 ⊢
              omega
end Go.Proofs.YtackciefmdiphaaGreatDoor

set_option linter.unusedVariables false
namespace Go.Proofs.YtackciefmdiphaaGreatDoor
open Go.RowKit Plain Go.Maps

/-- the weight of bytes: what a dollar sign may cost -/
def wt : List UInt8 → Nat
  | [] => 0
  | c :: r => (if c = 36 then 6 else 1) + wt r
theorem wt_app : ∀ (a b : List UInt8), wt (a ++ b) = wt a + wt b := by
  intro a b
  induction a with
  | nil => simp [wt]
  | cons c r ih => simp only [List.cons_append, wt, ih]; omega
theorem wt_len : ∀ (a : List UInt8), a.length ≤ wt a := by
  intro a
  induction a with
  | nil => exact Nat.le_refl _
  | cons c r ih => simp only [wt, List.length_cons]; split <;> omega
theorem wt_c36 : ∀ (a : List UInt8), wt a = a.length + 5 * c36 a := by
  intro a
  induction a with
  | nil => rfl
  | cons c r ih => simp only [wt, c36, List.length_cons]; split <;> omega
/-- the weight from a place on -/
def wtA (s : ByteArray) (p : Nat) : Nat := wt (s.data.toList.drop p)
theorem wtA_add (s : ByteArray) (p n : Nat) (h : p + n ≤ s.size) : wtA s (p + n) + n ≤ wtA s p := by
  unfold wtA
  rw [← List.take_append_drop n (s.data.toList.drop p), wt_app, List.drop_drop]
  have := wt_len ((s.data.toList.drop p).take n)
  rw [List.length_take, List.length_drop, ← Lib.size_eq] at this
  omega
theorem wtA_mono (s : ByteArray) (p q : Nat) (h : p ≤ q) (hq : q ≤ s.size) : wtA s q + (q - p) ≤ wtA s p := by
  have := wtA_add s p (q - p) (by omega)
  rwa [show p + (q - p) = q by omega] at this
theorem run_big' (l : List UInt8) (hne : l ≠ []) (h : ¬ (l.getD 0 0).toNat < 128) : 128 ≤ (Lib.decodeL l).1 := by
  have hl : 0 < l.length := List.length_pos_iff.2 hne
  have E := Lib.decodeL_N l
  rcases Lib.decodeN_shape l.length (l.getD 0 0).toNat (l.getD 1 0).toNat (l.getD 2 0).toNat (l.getD 3 0).toNat with ⟨c, e⟩ | ⟨c1, c2, c3, cv, e⟩ | ⟨c1, c2, c3, c4, cv, cs, e⟩ | ⟨c1, c2, c3, c4, c5, cv, cw, e⟩ | e
  all_goals rw [e] at E
  all_goals rw [E]
  all_goals dsimp only
  · exact absurd c h
  all_goals omega
theorem rAt_dol (s : ByteArray) (p : Nat) (hp : p < s.size) (h : rAt s p = 36) : wtA s (p + kAt s p) + 6 ≤ wtA s p := by
  have hne : s.data.toList.drop p ≠ [] := by
    intro e
    have := congrArg List.length e
    rw [List.length_drop, ← Lib.size_eq] at this
    simp at this
    omega
  obtain ⟨x, r, hx⟩ : ∃ x r, s.data.toList.drop p = x :: r := by
    cases hd : s.data.toList.drop p with
    | nil => exact absurd hd hne
    | cons x r => exact ⟨x, r, rfl⟩
  have h1 := Lib.decodeL_drop s p
  by_cases hlt : x.toNat < 128
  · rw [hx, Lib.decodeL_ascii x r hlt] at h1
    have e1 : rAt s p = x.toNat := by unfold rAt; rw [← h1]
    have e2 : kAt s p = 1 := by unfold kAt; rw [← h1]
    have e3 : x = 36 := by
      apply UInt8.toNat_inj.1
      rw [← e1, h]; rfl
    rw [e2]
    unfold wtA
    rw [← List.drop_drop, hx]
    simp only [List.drop_succ_cons, List.drop_zero, wt, if_pos e3]
    omega
  · have := run_big' (s.data.toList.drop p) hne (by rw [hx]; exact hlt)
    rw [h1] at this
    have e1 : rAt s p = (Utf8.decode s p).1 := rfl
    omega
theorem rAt_wt (s : ByteArray) (p : Nat) (hp : p < s.size) : wtA s (p + kAt s p) + (if rAt s p = 36 then 6 else 1) ≤ wtA s p := by
  by_cases h : rAt s p = 36
  · rw [if_pos h]; exact rAt_dol s p hp h
  · rw [if_neg h]
    have hk := kAt_pos s p hp
    have := wtA_add s p (kAt s p) hk.2
    omega
theorem hexs_far (s : ByteArray) : ∀ (n p acc : Nat) (x : Nat × Nat), hexs s n p acc = some x → p ≤ s.size → p + n ≤ x.2 ∧ x.2 ≤ s.size := by
  intro n
  induction n with
  | zero => intro p acc x h hp; simp only [hexs, Option.some.injEq] at h; subst h; exact ⟨Nat.le_refl _, hp⟩
  | succ n ih =>
    intro p acc x h hp
    unfold hexs at h
    split at h
    · rename_i hlt
      have hk := kAt_pos s p hlt
      split at h
      · have := ih _ _ _ h hk.2
        omega
      · cases h
    · cases h
theorem scanE_wt (s : ByteArray) (p : Nat) (x : Nat × Nat) (h : scanE s p = some x) : wtA s x.2 + (if x.1 = 36 then 5 else 0) ≤ wtA s p := by
  unfold scanE at h
  split at h
  · rename_i hp
    have hk := kAt_pos s p hp
    have hw := rAt_wt s p hp
    split at h
    · rename_i he
      injection h with h; subst h
      dsimp only
      have hne : decEsc (rAt s p) ≠ 36 := by
        unfold escC at he
        unfold decEsc
        simp at he
        split
        · omega
        · split
          · omega
          · split
            · omega
            · split
              · omega
              · omega
      rw [if_neg hne]
      split at hw <;> omega
    · split at h
      · have h1 := hexs_far s _ _ _ _ h hk.2
        have h2 := wtA_mono s p x.2 (by omega) h1.2
        split <;> omega
      · injection h with h; subst h
        dsimp only
        split at hw
        · rename_i h36; rw [if_pos h36]; omega
        · rename_i h36; rw [if_neg h36]; omega
  · cases h
/-- runes that are dollar signs -/
def r36 : List Nat → Nat
  | [] => 0
  | c :: r => (if c = 36 then 1 else 0) + r36 r
theorem r36_snoc : ∀ (a : List Nat) (x : Nat), r36 (a ++ [x]) = r36 a + (if x = 36 then 1 else 0) := by
  intro a x
  induction a with
  | nil => simp [r36]
  | cons c r ih => simp only [List.cons_append, r36, ih]; omega
theorem valL_wt (s : ByteArray) (p : Nat) (acc : List Nat) (hp : p ≤ s.size) : ∀ x, valL s p acc = .ok x → 6 * r36 x.1 + wtA s x.2.1 ≤ 6 * r36 acc + wtA s p := by
  fun_induction valL s p acc with
  | case1 p acc h h1 h2 ih =>
    intro x hx
    have hk := kAt_pos s p h
    have hk2 := kAt_pos s _ h2.1
    have hw := skipW_ge s (p + kAt s p + kAt s (p + kAt s p))
    have hl := skipW_le s _ hk2.2
    have h3 := ih hl x hx
    have h4 := wtA_mono s p _ (show p ≤ skipW s (p + kAt s p + kAt s (p + kAt s p)) by omega) hl
    omega
  | case2 p acc h h1 h2 hE => intro x hx; cases hx
  | case3 p acc h h1 h2 y hE ih =>
    intro x hx
    have hk := kAt_pos s p h
    have h0 := scanE_gt s _ _ hE
    have h3 := ih h0.2 x hx
    have h4 := scanE_wt s _ _ hE
    have h5 := wtA_add s p (kAt s p) hk.2
    rw [r36_snoc] at h3
    split at h3
    · rename_i e; rw [if_pos e] at h4; omega
    · rename_i e; rw [if_neg e] at h4; omega
  | case4 p acc h h1 h2 =>
    intro x hx
    injection hx with hx
    subst hx
    have hk := kAt_pos s p h
    have h5 := wtA_add s p (kAt s p) hk.2
    dsimp only
    omega
  | case5 p acc h h1 h2 ih =>
    intro x hx
    have hk := kAt_pos s p h
    have h3 := ih hk.2 x hx
    have h4 := rAt_wt s p h
    rw [r36_snoc] at h3
    split at h3
    · rename_i e; rw [if_pos e] at h4; omega
    · rename_i e; rw [if_neg e] at h4; omega
  | case6 p acc h => intro x hx; injection hx with hx; subst hx; exact Nat.le_refl _
theorem u8_toNat (x : Int) (h : x.toNat < 256) : x.toNat.toUInt8.toNat = x.toNat := by
  simp [Nat.mod_eq_of_lt h]
theorem c36_enc (n : Nat) : c36 (Lib.encodeRune (n : Int)) = if n = 36 then 1 else 0 := by
  have one : ∀ x : Int, 128 ≤ x.toNat → x.toNat < 256 → x.toNat.toUInt8 ≠ 36 := fun x h1 h2 e => by
    have := congrArg UInt8.toNat e
    rw [u8_toNat x h2] at this
    have e2 : (36 : UInt8).toNat = 36 := rfl
    omega
  unfold Lib.encodeRune
  by_cases h1 : (0 : Int) ≤ n ∧ (n : Int) ≤ 127
  · rw [Lib.encodeRuneZ_one h1.1 h1.2]
    simp only [List.map_cons, List.map_nil, c36]
    have h3 : ((n : Int).toNat.toUInt8).toNat = n := by rw [u8_toNat _ (by omega)]; omega
    by_cases h4 : n = 36
    · subst h4; rfl
    · rw [if_neg h4, if_neg (fun e => h4 (by rw [e] at h3; exact h3.symm))]
  · have h1' : ¬ n = 36 := by omega
    rw [if_neg h1']
    by_cases h2 : 128 ≤ (n : Int) ∧ (n : Int) ≤ 2047
    · rw [Lib.encodeRuneZ_two h2.1 h2.2]
      simp only [List.map_cons, List.map_nil, c36]
      rw [if_neg (one _ (by omega) (by omega)), if_neg (one _ (by omega) (by omega))]
    by_cases h3 : (2048 ≤ (n : Int) ∧ (n : Int) < 55296) ∨ (57343 < (n : Int) ∧ (n : Int) ≤ 65535)
    · rw [Lib.encodeRuneZ_three h3]
      simp only [List.map_cons, List.map_nil, c36]
      rw [if_neg (one _ (by omega) (by omega)), if_neg (one _ (by omega) (by omega)), if_neg (one _ (by omega) (by omega))]
    by_cases h4 : 65536 ≤ (n : Int) ∧ (n : Int) ≤ 1114111
    · rw [Lib.encodeRuneZ_four h4.1 h4.2]
      simp only [List.map_cons, List.map_nil, c36]
      rw [if_neg (one _ (by omega) (by omega)), if_neg (one _ (by omega) (by omega)), if_neg (one _ (by omega) (by omega)), if_neg (one _ (by omega) (by omega))]
    · rw [Lib.encodeRuneZ_bad (by omega)]
      decide
theorem c36_text : ∀ (l : List Nat), c36 (textOf l).data.toList = r36 l := by
  intro l
  have e : (textOf l).data.toList = (l.map fun (n : Nat) => Lib.encodeRune (n : Int)).flatten := by unfold textOf; rw [List.toList_toArray]
  rw [e]
  clear e
  induction l with
  | nil => rfl
  | cons x r ih => simp only [List.map_cons, List.flatten_cons, c36_app, c36_enc, r36, ih]
/-- the dollar signs of the values among items -/
def vsum : List LI → Nat
  | [] => 0
  | x :: r => (if x.kind = 3 then c36 x.text.data.toList else 0) + vsum r
theorem vsum_app : ∀ (a b : List LI), vsum (a ++ b) = vsum a + vsum b := by
  intro a b
  induction a with
  | nil => simp [vsum]
  | cons c r ih => simp only [List.cons_append, vsum, ih]; omega
theorem vsum_lexS (s : ByteArray) (nx : NX) (p : Nat) (hp : p ≤ s.size) : 6 * vsum (lexS s nx p).1 + (match (lexS s nx p).2 with | none => 0 | some x => wtA s x.2) ≤ wtA s p := by
  have hm := lexS_mu s nx p hp
  by_cases hv : nx = .val
  · subst hv
    unfold lexS at hm ⊢
    dsimp only at hm ⊢
    cases hvl : valL s p [] with
    | error e => simp [vsum]
    | ok x =>
      obtain ⟨acc, q, b⟩ := x
      have h1 := valL_wt s p [] hp _ hvl
      have h2 : r36 ([] : List Nat) = 0 := rfl
      dsimp only at h1
      have h3 := c36_text acc
      cases b with
      | true => simp [vsum]; omega
      | false => simp [vsum]; omega
  · have h0 : vsum (lexS s nx p).1 = 0 := by
      have key : ∀ l : List LI, (∀ x ∈ l, x.kind ≠ 3) → vsum l = 0 := by
        intro l
        induction l with
        | nil => intro _; rfl
        | cons x r ih => intro h; simp only [vsum]; rw [if_neg (h x List.mem_cons_self), ih (fun y hy => h y (List.mem_cons_of_mem _ hy))]
      apply key
      intro x hx
      unfold lexS at hx
      cases nx with
      | before => dsimp only at hx; (repeat' split at hx) <;> simp_all
      | comment => dsimp only at hx; split at hx <;> simp_all
      | key =>
        dsimp only at hx
        split at hx
        · simp_all
        · rename_i acc q b hk
          by_cases ha : acc = [] <;> cases b <;> simp [ha] at hx <;> (first | (rcases hx with rfl | rfl <;> simp) | (subst hx; simp) | skip)
      | bval => simp at hx
      | val => exact absurd rfl hv
    rw [h0]
    cases hr : (lexS s nx p).2 with
    | none => dsimp only; omega
    | some x =>
      have := hm x hr
      have := wtA_mono s p x.2 this.1 this.2.1
      dsimp only
      omega
theorem vsum_lexN (s : ByteArray) : ∀ (f : Nat) (nx : NX) (p : Nat), p ≤ s.size → 6 * vsum (lexN s f nx p) ≤ wtA s p := by
  intro f
  induction f with
  | zero => intro nx p hp; simp [lexN, vsum]
  | succ f ih =>
    intro nx p hp
    unfold lexN
    rw [vsum_app]
    have h1 := vsum_lexS s nx p hp
    have hm := lexS_mu s nx p hp
    cases hr : (lexS s nx p).2 with
    | none => rw [hr] at h1; simp [vsum]; dsimp only at h1; omega
    | some x =>
      rw [hr] at h1
      dsimp only at h1 ⊢
      have h2 := ih x.1 x.2 (hm x hr).2.1
      omega
/-- the parser's state: its keys are those of its map -/
structure KsI (p : PSt) : Prop where
  im : IsMap p.D
  hk : ∀ k ∈ p.ks, Maps.has p.D (keyL8 k) = true
  kh : ∀ k, Maps.has p.D (keyL8 k) = true → k ∈ p.ks
  nd : p.ks.Nodup
theorem dsum_upd (D D' : ByteArray → ByteArray) (T : ByteArray) (h : ∀ x, x ≠ T → D' x = D x) : ∀ ks : List ByteArray, ks.Nodup → dsum D' [] ks ≤ dsum D [] ks + c36 (D' T).data.toList ∧ (T ∉ ks → dsum D' [] ks ≤ dsum D [] ks) := by
  intro ks
  induction ks with
  | nil => intro _; exact ⟨by simp [dsum], fun _ => by simp [dsum]⟩
  | cons k r ih =>
    intro hnd
    rw [List.nodup_cons] at hnd
    obtain ⟨h1, h2⟩ := ih hnd.2
    simp only [dsum, if_neg (List.not_mem_nil (a := k))]
    by_cases hk : k = T
    · subst hk
      have := h2 hnd.1
      exact ⟨by omega, fun hn => absurd List.mem_cons_self hn⟩
    · rw [h k hk]
      refine ⟨by omega, fun hn => ?_⟩
      have := h2 (fun hm => hn (List.mem_cons_of_mem _ hm))
      omega
theorem rawO_has {D : DataW Unit} {k : ByteArray} : (rawO D k).isSome = Maps.has D (keyL8 k) := by
  unfold rawO
  cases Maps.has D (keyL8 k) <;> rfl
theorem KsI.add {p : PSt} (h : KsI p) (T V : ByteArray) (cm : List ByteArray) : KsI (putV (addC (addK p T) T cm) T V) ∧ dsum (rawOf (putV (addC (addK p T) T cm) T V).D) [] (putV (addC (addK p T) T cm) T V).ks ≤ dsum (rawOf p.D) [] p.ks + c36 V.data.toList := by
  obtain ⟨f1, f2, f3, _⟩ := addP_facts p T V cm h.im h.hk
  have e1 : (putV (addC (addK p T) T cm) T V).D = p.D.put (keyL8 T) (.lit (.string V.data.toList)) := by
    unfold putV addC addK
    split <;> split <;> rfl
  have e2 : (putV (addC (addK p T) T cm) T V).ks = if Maps.has p.D (keyL8 T) = true then p.ks else p.ks ++ [T] := by
    unfold putV addC addK
    split <;> split <;> rfl
  have hD : ∀ x, x ≠ T → rawOf (putV (addC (addK p T) T cm) T V).D x = rawOf p.D x := fun x hx => by
    rw [e1, rawOf_put h.im, if_neg (fun e => hx e.symm)]
  have hT : rawOf (putV (addC (addK p T) T cm) T V).D T = V := by rw [e1, rawOf_put h.im, if_pos rfl]
  have hnd : (putV (addC (addK p T) T cm) T V).ks.Nodup := by
    rw [e2]
    split
    · exact h.nd
    · rename_i hh
      rw [List.nodup_append]
      exact ⟨h.nd, by simp, fun a ha b hb e => by
        simp at hb
        subst hb
        subst e
        exact hh (h.hk _ ha)⟩
  refine ⟨⟨f1, f2, fun k hk => ?_, hnd⟩, ?_⟩
  · rw [← rawO_has, f3 k] at hk
    rw [e2]
    by_cases hTk : T = k
    · subst hTk
      split
      · rename_i hh; exact h.kh _ hh
      · simp
    · rw [if_neg hTk, rawO_has] at hk
      have := h.kh k hk
      split
      · exact this
      · exact List.mem_append_left _ this
  · have h1 := dsum_upd (rawOf p.D) (rawOf (putV (addC (addK p T) T cm) T V).D) T hD p.ks h.nd
    rw [hT] at h1
    rw [e2]
    split
    · exact h1.1
    · rename_i hh
      have hn : T ∉ p.ks := fun hm => hh (h.hk _ hm)
      have h2 := h1.2 hn
      have h3 : ∀ l : List ByteArray, dsum (rawOf (putV (addC (addK p T) T cm) T V).D) [] (l ++ [T]) = dsum (rawOf (putV (addC (addK p T) T cm) T V).D) [] l + c36 V.data.toList := by
        intro l
        induction l with
        | nil => simp only [List.nil_append, dsum, if_neg (List.not_mem_nil (a := T)), hT]; omega
        | cons x r ih => simp only [List.cons_append, dsum, ih]; omega
      rw [h3]
      omega
theorem ksI0 : KsI pst0 := ⟨⟨[], rfl⟩, fun k hk => by simp [pst0] at hk, fun k hk => (by
  have : Maps.has pst0.D (keyL8 k) = false := rfl
  rw [this] at hk
  cases hk), by simp [pst0]⟩
theorem parL_dol : ∀ (m : Nat) (l : List LI) (cm : List ByteArray) (p p' : PSt), l.length ≤ m → KsI p → parL l cm p = some p' → KsI p' ∧ dsum (rawOf p'.D) [] p'.ks ≤ dsum (rawOf p.D) [] p.ks + vsum l := by
  intro m
  induction m with
  | zero => intro l cm p p' hl; cases l with
    | nil => intro _ h; simp [parL] at h
    | cons x r => simp at hl
  | succ m ih =>
    intro l cm p p' hl hp h
    cases l with
    | nil => simp [parL] at h
    | cons x r =>
      simp only [List.length_cons] at hl
      unfold parL at h
      by_cases h1 : x.kind = 1
      · rw [if_pos h1] at h
        injection h with h
        subst h
        exact ⟨hp, by omega⟩
      · rw [if_neg h1] at h
        by_cases h4 : x.kind = 4
        · rw [if_pos h4] at h
          obtain ⟨g1, g2⟩ := ih r _ p p' (by omega) hp h
          exact ⟨g1, by simp only [vsum]; omega⟩
        · rw [if_neg h4] at h
          by_cases h2 : x.kind = 2
          · rw [if_pos h2] at h
            cases r with
            | nil => cases h
            | cons y r =>
              simp only [List.length_cons] at hl
              dsimp only at h
              by_cases hy1 : y.kind = 1
              · rw [if_pos hy1] at h
                injection h with h
                subst h
                obtain ⟨g1, g2⟩ := hp.add x.text emptyB cm
                exact ⟨g1, by have : c36 emptyB.data.toList = 0 := rfl; omega⟩
              · rw [if_neg hy1] at h
                by_cases hy3 : y.kind = 3
                · rw [if_pos hy3] at h
                  obtain ⟨g1, g2⟩ := hp.add x.text y.text cm
                  obtain ⟨g3, g4⟩ := ih r [] _ p' (by omega) g1 h
                  exact ⟨g3, by simp only [vsum, if_pos hy3]; omega⟩
                · rw [if_neg hy3] at h
                  cases h
          · rw [if_neg h2] at h
            cases h
theorem raw_out {p : PSt} (h : KsI p) (k : ByteArray) (hk : k ∉ p.ks) : rawOf p.D k = ⟨#[]⟩ := by
  have h1 : Maps.has p.D (keyL8 k) = false := by
    cases hh : Maps.has p.D (keyL8 k) with
    | false => rfl
    | true => exact absurd (h.kh k hh) hk
  unfold rawOf
  rw [atKey_of_not_has h1]
/-- THE LAW: whole values of a short text with few dollar signs come to an end -/
theorem whole_ends (s : ByteArray) (p : PSt) (hs : s.size ≤ 399) (hd : c36 s.data.toList ≤ 8) (hp : parL (lexL (unbom s)) [] pst0 = some p) (hw : ∀ k ∈ p.ks, wh 0 (rawOf p.D k).data.toList = true) :
    ∃ ek, ExpAll p.D ek := by
  obtain ⟨hk, hdol⟩ := parL_dol _ _ [] pst0 p (Nat.le_refl _) ksI0 hp
  have hu := unbom_size s
  have hv := vsum_lexN (unbom s) (4 * (unbom s).size + 4) .before 0 (Nat.zero_le _)
  have h73 : dsum (rawOf p.D) [] p.ks ≤ 73 := by
    have e1 : dsum (rawOf pst0.D) [] pst0.ks = 0 := rfl
    have e2 : vsum (lexL (unbom s)) = vsum (lexN (unbom s) (4 * (unbom s).size + 4) .before 0) := rfl
    have e3 : wtA (unbom s) 0 ≤ 439 := by
      unfold wtA
      rw [List.drop_zero]
      have e4 : (unbom s).data.toList = s.data.toList.drop (bomK s) := by unfold unbom; rw [List.toList_toArray]
      rw [e4, wt_c36, List.length_drop, ← Lib.size_eq]
      have e5 := c36_app (s.data.toList.take (bomK s)) (s.data.toList.drop (bomK s))
      rw [List.take_append_drop] at e5
      omega
    omega
  have hvals : ∀ k, (rawOf p.D k).size ≤ 2000 := by
    have := parL_bd 2000 _ (lexL (unbom s)) [] pst0 p 0 (Nat.le_refl _) (fun x hx => by have := lexL_text (unbom s) x hx; omega) (pbd0 _ _) (Nat.zero_le _) hp
    exact this.vals
  have hwh : ∀ k, wh 0 (rawOf p.D k).data.toList = true := fun k => by
    by_cases h : k ∈ p.ks
    · exact hw k h
    · rw [raw_out hk k h]; rfl
  have key : ∀ k, Maps.has p.D (keyL8 k) = true → ∃ o, expF (rawOf p.D) 1000000 [k] (rawOf p.D k) = some o := fun k hh => by
    have h1 := dsum_take (rawOf p.D) [] k (by simp) p.ks (hk.kh k hh)
    rw [List.nil_append] at h1
    obtain ⟨e, he⟩ : ∃ e, c36 (rawOf p.D k).data.toList = e := ⟨_, rfl⟩
    rw [he] at h1
    have h2 := RR_step (T := 73) (e := e) (by omega) (by omega)
    have h3 := ((RR_all 73 (by omega)).1).2
    have h4 := hvals k
    obtain ⟨o, ho, _⟩ := exp_ends (rawOf p.D) p.ks hwh hvals (fun x hx => by rw [raw_out hk x hx]; rfl) 64 [k] (73 - e) (by simp) (by omega) (by omega) e [] (rawOf p.D k).data.toList 1000000 (rawOf p.D k) (by omega) (hwh k) (fun c h => by simp at h) (by
      have := h4
      rw [Lib.size_eq] at this
      simp only [List.length_nil]
      omega) (by omega) (by simp)
    exact ⟨o, ho⟩
  refine ⟨fun k => (match expF (rawOf p.D) 1000000 [k] (rawOf p.D k) with | some o => o | none => none), fun k hh => ⟨1000000, ?_⟩⟩
  obtain ⟨o, ho⟩ := key k hh
  simp only [ho]
end Go.Proofs.YtackciefmdiphaaGreatDoor

set_option linter.unusedVariables false
namespace Go.Proofs.YtackciefmdiphaaGreatDoor
open Go.RowKit Plain Go.Maps

theorem drop_at {s : ByteArray} {i : Nat} (h : i < s.size) : s.data.toList.drop i = (s[i]'h) :: s.data.toList.drop (i + 1) := by
  have h1 := byte_at s i h
  have hl : i < s.data.toList.length := by rw [← Lib.size_eq]; exact h
  rw [List.drop_eq_getElem_cons hl]
  congr 1
theorem take_at {s : ByteArray} {i : Nat} (h : i < s.size) : s.data.toList.take (i + 1) = s.data.toList.take i ++ [s[i]'h] := by
  rw [List.take_add_one, byte_at s i h]
  rfl
theorem c36_le (a : List UInt8) : c36 a ≤ a.length := by
  induction a with
  | nil => exact Nat.le_refl _
  | cons c r ih => simp only [c36, List.length_cons]; split <;> omega
theorem u8_eq_iff (x : UInt8) (n : Nat) (hn : n < 256) : x = UInt8.ofNat n ↔ x.toNat = n := by
  constructor
  · intro h; rw [h]; simp [Nat.mod_eq_of_lt hn]
  · intro h; rw [← h]; simp
set_option maxHeartbeats 2000000 in
set_option maxRecDepth 100000 in
theorem dollars_any (s : ByteArray) (w : World) (hs : s.size ≤ 140737488355328) :
    Calls Tryz.prog 16 #[.string s] w fun e w' => e = .returned (.int .i64 (c36 s.data.toList : Int)) ∧ w' = w := by
  go_enter Tryz.func16, Tryz.ntmps16
  go_wp2
  go_loopg [3, 4] s.size (fun g' v3 v4 wr => ∃ i : Nat, v4 = .int .i64 (i : Int) ∧ v3 = .int .i64 (c36 (s.data.toList.take i) : Int) ∧ i ≤ s.size ∧ g' = s.size - i ∧ wr = w)
  case atStart => exact ⟨0, rfl, rfl, Nat.zero_le _, rfl, rfl⟩
  case round =>
    obtain ⟨i, rfl, rfl, his, rfl, rfl⟩ := hrel
    have hc := c36_le (s.data.toList.take i)
    rw [List.length_take] at hc
    by_cases hlt : i < s.size
    · have hz : (i : Int) < (s.size : Int) := by omega
      obtain ⟨C, hC⟩ : ∃ C, c36 (s.data.toList.take i) = C := ⟨_, rfl⟩
      rw [hC] at hc ⊢
      have HC := Lib.hid hC
      clear hC
      obtain ⟨x, hx⟩ : ∃ x, s[i]'hlt = x := ⟨_, rfl⟩
      have HX := Lib.hid hx
      by_cases h36 : (s[i]'hlt) = 36
      · have h1 : (((s[i]'hlt).toNat : Int) == 36) = true := by rw [h36]; rfl
        have HN : Hid (c36 (s.data.toList.take (i + 1)) = C + 1) := Lib.hid (by rw [take_at hlt, c36_app, HC.out, h36]; rfl)
        clear h36 hx
        go_wp2
        go_roundg (s.size - (i + 1))
        case measure => omega
        case rel => exact ⟨i + 1, by go_num, by rw [HN.out]; go_num, by omega, rfl, rfl⟩
      · have h1 : (((s[i]'hlt).toNat : Int) == 36) = false := by
          rw [beq_eq_false_iff_ne]
          intro e
          exact h36 (UInt8.toNat_inj.1 (by have : (36 : UInt8).toNat = 36 := rfl; omega))
        have HN : Hid (c36 (s.data.toList.take (i + 1)) = C) := Lib.hid (by rw [take_at hlt, c36_app, HC.out]; simp only [c36, if_neg h36]; omega)
        clear h36 hx
        go_wp2
        go_roundg (s.size - (i + 1))
        case measure => omega
        case rel => exact ⟨i + 1, by go_num, by rw [HN.out], by omega, rfl, rfl⟩
    · have hz : ¬ (i : Int) < (s.size : Int) := by omega
      have ht : s.data.toList.take i = s.data.toList := List.take_of_length_le (by rw [← Lib.size_eq]; omega)
      rw [ht]
      go_wp2
      go_ret
      exact ⟨rfl, rfl⟩
set_option maxHeartbeats 4000000 in
set_option maxRecDepth 100000 in
theorem whole_any (s : ByteArray) (w : World) (hs : s.size ≤ 140737488355328) :
    Calls Tryz.prog 34 #[.string s] w fun e w' => e = .returned (.bool (wh 0 s.data.toList)) ∧ w' = w := by
  obtain ⟨B, hB⟩ : ∃ B, wh 0 s.data.toList = B := ⟨_, rfl⟩
  rw [hB]
  go_enter Tryz.func34, Tryz.ntmps34
  go_wp2
  have HB0 := Lib.hid hB
  clear hB
  go_loopg [3] (s.size + 2) (fun g' v3 wr => ∃ i : Nat, v3 = .int .i64 (i : Int) ∧ i ≤ s.size + 1 ∧ g' = s.size + 2 - i ∧ Hid (wh 0 (s.data.toList.drop i) = B) ∧ wr = w)
  case atStart => exact ⟨0, rfl, by omega, rfl, Lib.hid (by rw [List.drop_zero]; exact HB0.out), rfl⟩
  case round =>
    obtain ⟨i, rfl, his, rfl, HW, rfl⟩ := hrel
    by_cases hlt : i < s.size
    · have hz : (i : Int) < (s.size : Int) := by omega
      have hw := HW.out
      rw [drop_at hlt] at hw
      unfold wh at hw
      by_cases h123 : (s[i]'hlt) = 123
      · have h1 : (((s[i]'hlt).toNat : Int) == 123) = true := by rw [h123]; rfl
        rw [if_pos (.inl h123)] at hw
        subst hw
        clear h123
        go_wp2
        go_ret
        exact ⟨rfl, rfl⟩
      have h1 : (((s[i]'hlt).toNat : Int) == 123) = false := by
        rw [beq_eq_false_iff_ne]
        intro e
        exact h123 (UInt8.toNat_inj.1 (by have : (123 : UInt8).toNat = 123 := rfl; omega))
      by_cases h125 : (s[i]'hlt) = 125
      · have h2 : (((s[i]'hlt).toNat : Int) == 125) = true := by rw [h125]; rfl
        rw [if_pos (.inr h125)] at hw
        subst hw
        clear h123 h125
        go_wp2
        go_ret
        exact ⟨rfl, rfl⟩
      have h2 : (((s[i]'hlt).toNat : Int) == 125) = false := by
        rw [beq_eq_false_iff_ne]
        intro e
        exact h125 (UInt8.toNat_inj.1 (by have : (125 : UInt8).toNat = 125 := rfl; omega))
      rw [if_neg (by rintro (e | e) <;> contradiction)] at hw
      by_cases h36 : (s[i]'hlt) = 36
      · have h3 : (((s[i]'hlt).toNat : Int) == 36) = true := by rw [h36]; rfl
        rw [if_pos h36] at hw
        clear h123 h125 h36
        by_cases hl2 : i + 1 < s.size
        · have hz2 : ((i : Int) + 1 == (s.size : Int)) = false := by rw [beq_eq_false_iff_ne]; omega
          have hz3 : (i : Int) + 1 < (s.size : Int) := by omega
          have hg : (s.get! (i + 1)) = (s[i + 1]'hl2) := by simp [ByteArray.get!, ByteArray.getElem_eq_getElem_data, hl2]
          rw [drop_at hl2] at hw
          unfold wh at hw
          by_cases h4 : (s[i + 1]'hl2) = 123
          · have h5 : (((s[i + 1]'hl2).toNat : Int) == 123) = true := by rw [h4]; rfl
            rw [if_pos h4] at hw
            have HW2 := Lib.hid hw
            clear h4 hw hg
            go_wp2
            go_loopg [3] (s.size - (i + 2)) (fun g' v3 wq => ∃ j : Nat, v3 = .int .i64 (j : Int) ∧ j ≤ s.size ∧ i + 2 ≤ j ∧ g' = s.size - j ∧ Hid (wh 2 (s.data.toList.drop j) = B) ∧ wq = wr)
            case atStart => exact ⟨i + 2, by go_num, by omega, by omega, rfl, HW2, rfl⟩
            case round =>
              obtain ⟨j, rfl, hjs, hij, rfl, HV, rfl⟩ := hrel
              by_cases hlj : j < s.size
              · have hjz : (j : Int) < (s.size : Int) := by omega
                have hv := HV.out
                rw [drop_at hlj] at hv
                unfold wh at hv
                by_cases g125 : (s[j]'hlj) = 125
                · have g1 : (((s[j]'hlj).toNat : Int) == 125) = true := by rw [g125]; rfl
                  rw [if_pos g125] at hv
                  have HV2 := Lib.hid hv
                  clear g125 hv
                  go_wp2
                  go_roundg (s.size + 2 - (j + 1))
                  case measure => omega
                  case rel => exact ⟨j + 1, by go_num, by omega, rfl, HV2, rfl⟩
                · have g1 : (((s[j]'hlj).toNat : Int) == 125) = false := by
                    rw [beq_eq_false_iff_ne]
                    intro e
                    exact g125 (UInt8.toNat_inj.1 (by have : (125 : UInt8).toNat = 125 := rfl; omega))
                  rw [if_neg g125] at hv
                  clear g125
                  by_cases g36 : (s[j]'hlj) = 36
                  · have g2 : (((s[j]'hlj).toNat : Int) == 36) = true := by rw [g36]; rfl
                    rw [if_pos (.inl g36)] at hv
                    subst hv
                    clear g36
                    go_wp2
                    go_ret
                    exact ⟨rfl, rfl⟩
                  · have g2 : (((s[j]'hlj).toNat : Int) == 36) = false := by
                      rw [beq_eq_false_iff_ne]
                      intro e
                      exact g36 (UInt8.toNat_inj.1 (by have : (36 : UInt8).toNat = 36 := rfl; omega))
                    by_cases g123 : (s[j]'hlj) = 123
                    · have g3 : (((s[j]'hlj).toNat : Int) == 123) = true := by rw [g123]; rfl
                      rw [if_pos (.inr g123)] at hv
                      subst hv
                      clear g36 g123
                      go_wp2
                      go_ret
                      exact ⟨rfl, rfl⟩
                    · have g3 : (((s[j]'hlj).toNat : Int) == 123) = false := by
                        rw [beq_eq_false_iff_ne]
                        intro e
                        exact g123 (UInt8.toNat_inj.1 (by have : (123 : UInt8).toNat = 123 := rfl; omega))
                      rw [if_neg (by rintro (e | e) <;> contradiction)] at hv
                      have HV2 := Lib.hid hv
                      clear g36 g123 hv
                      go_wp2
                      go_roundg (s.size - (j + 1))
                      case measure => omega
                      case rel => exact ⟨j + 1, by go_num, by omega, by omega, rfl, HV2, rfl⟩
              · have hjz : ¬ (j : Int) < (s.size : Int) := by omega
                have e0 : s.data.toList.drop j = [] := List.drop_eq_nil_of_le (by rw [← Lib.size_eq]; omega)
                have e1 : s.data.toList.drop (j + 1) = [] := List.drop_eq_nil_of_le (by rw [← Lib.size_eq]; omega)
                have hv := HV.out
                rw [e0] at hv
                have hv' : true = B := hv
                subst hv'
                have HV2 : Hid (wh 0 (s.data.toList.drop (j + 1)) = true) := Lib.hid (by rw [e1]; rfl)
                clear hv e0 e1
                go_wp2
                go_roundg (s.size + 2 - (j + 1))
                case measure => omega
                case rel => exact ⟨j + 1, by go_num, by omega, rfl, HV2, rfl⟩
          · have h5 : (((s[i + 1]'hl2).toNat : Int) == 123) = false := by
              rw [beq_eq_false_iff_ne]
              intro e
              exact h4 (UInt8.toNat_inj.1 (by have : (123 : UInt8).toNat = 123 := rfl; omega))
            rw [if_neg h4] at hw
            subst hw
            clear h4 hg
            go_wp2
            go_ret
            exact ⟨rfl, rfl⟩
        · have hz2 : ((i : Int) + 1 == (s.size : Int)) = true := by rw [beq_iff_eq]; omega
          have e0 : s.data.toList.drop (i + 1) = [] := List.drop_eq_nil_of_le (by rw [← Lib.size_eq]; omega)
          rw [e0] at hw
          have hw' : false = B := hw
          subst hw'
          clear hw
          go_wp2
          go_ret
          exact ⟨rfl, rfl⟩
      · have h3 : (((s[i]'hlt).toNat : Int) == 36) = false := by
          rw [beq_eq_false_iff_ne]
          intro e
          exact h36 (UInt8.toNat_inj.1 (by have : (36 : UInt8).toNat = 36 := rfl; omega))
        rw [if_neg h36] at hw
        have HW2 := Lib.hid hw
        clear h123 h125 h36 hw
        go_wp2
        go_roundg (s.size + 2 - (i + 1))
        case measure => omega
        case rel => exact ⟨i + 1, by go_num, by omega, rfl, HW2, rfl⟩
    · have hz : ¬ (i : Int) < (s.size : Int) := by omega
      have e0 : s.data.toList.drop i = [] := List.drop_eq_nil_of_le (by rw [← Lib.size_eq]; omega)
      have hw := HW.out
      rw [e0] at hw
      have hw' : true = B := hw
      subst hw'
      clear hw
      go_wp2
      go_ret
      exact ⟨rfl, rfl⟩
end Go.Proofs.YtackciefmdiphaaGreatDoor

set_option linter.unusedVariables false
namespace Go.Proofs.YtackciefmdiphaaGreatDoor
open Go.RowKit Plain Go.Maps

/-- the properties that a load tells -/
def propsOfO (o : Option PSt) : List PropD := match o with | none => [] | some p => p.ks.map (dataOf p (rawOf p.D))
def textsOf (l : List LI) : List ByteArray := (l.filter fun x => x.kind == 3).map LI.text
def valsOf (s : ByteArray) (o : Option PSt) : List ByteArray := (propsOfO o).map PropD.raw ++ textsOf (outI (lexL s))
def VsPost (L : List ByteArray) (w : World) (e : Ending) (w' : World) : Prop :=
  ∃ v, e = .returned v ∧ w'.ownsRow w.heap.size 9 1 v L.length (L.map Value.string) ∧ Below w.heap.size w w'
theorem load_uni {s : ByteArray} {w : World} (hs : s.size ≤ 100000) (hT : Tabs w) {o : Option PSt} (ho : parL (lexL (unbom s)) [] pst0 = o) :
    Calls Tryz.prog 13 #[.string s, .int .i64 1, .bool true] w fun e w' => Below w.heap.size w w' ∧ ∃ v, e = .returned (.tuple #[v, .bool o.isSome]) ∧ PRow w.heap.size v (propsOfO o) w' :=
  (loadProps_plain s w hs hT o ho).mono (by
    rintro e w' ⟨hb, h⟩
    cases o with
    | none => exact ⟨hb, _, h, PRow.nil _ _⟩
    | some p => obtain ⟨v, rfl, hr⟩ := h; exact ⟨hb, v, rfl, hr⟩)
theorem texts_at {l : List LI} {i : Nat} {x : LI} (h : l[i]? = some x) : textsOf (l.take (i + 1)) = if x.kind = 3 then textsOf (l.take i) ++ [x.text] else textsOf (l.take i) := by
  unfold textsOf
  rw [List.take_add_one, h, List.filter_append, List.map_append]
  by_cases hk : x.kind = 3
  · rw [if_pos hk]
    simp [hk]
  · rw [if_neg hk]
    simp [hk]
theorem texts_len (l : List LI) : (textsOf l).length ≤ l.length := by
  unfold textsOf
  rw [List.length_map]
  exact List.length_filter_le _ _
set_option maxHeartbeats 8000000 in
set_option maxRecDepth 100000 in
theorem values_any (s : ByteArray) (w : World) (hs : s.size ≤ 100000) (hT : Tabs w) (o : Option PSt) (ho : parL (lexL (unbom s)) [] pst0 = o) :
    Calls Tryz.prog 33 #[.string s, .int .i64 1] w (VsPost (valsOf s o) w) := by
  obtain ⟨i0, hi, hz0, hz1, hz2⟩ := info_parts infoStr
  have HLD := Lib.hid (load_uni hs hT ho)
  have HTB := Lib.hid hT
  have HIT : Hid (∀ y, Below w.heap.size w y → Calls Tryz.prog 21 #[.string s] y (ItPost s y)) := Lib.hid (fun y hy => items_any s y hs (HTB.out.below hy))
  obtain ⟨N, hN⟩ : ∃ N, (propsOfO o).length = N := ⟨_, rfl⟩
  have hNb : N ≤ 1000000 := by
    rw [← hN]
    cases o with
    | none => exact Nat.zero_le _
    | some p =>
      have := (parL_small (unbom s) p (by have := unbom_size s; omega) ho).kn
      simpa [propsOfO] using this
  obtain ⟨PS, hPS⟩ : ∃ l, propsOfO o = l := ⟨_, rfl⟩
  unfold VsPost valsOf
  rw [hPS] at hN HLD ⊢
  obtain ⟨ok, hok⟩ : ∃ b, o.isSome = b := ⟨_, rfl⟩
  rw [hok] at HLD
  have HN := Lib.hid hN
  clear hok hPS hN ho hT
  go_enter Tryz.func33, Tryz.ntmps33
  go_wp2_with (first
    | (go_at_call 13; (with_reducible refine HLD.out.mono ?_); rintro e w1 ⟨hb1, v1, rfl, us, hu1, hu2, hu3⟩; rw [HN.out] at hu1 hu2; obtain ⟨a1, cp1, rfl⟩ := slq_any hu2; have HU1 := Lib.hid hu1; have HU2 := Lib.hid hu2; have HU3 := Lib.hid hu3; have HB1 := Lib.hid hb1; clear hb1 hu1 hu2 hu3; dsimp only))
  go_loopg [5, 20] N (fun g' v5 v20 wr => ∃ i : Nat, v20 = .int .i64 (i : Int) ∧ i ≤ N ∧ g' = N - i ∧ Hid (wr.ownsRow w1.heap.size 9 1 v5 i (((PS.map PropD.raw).take i).map Value.string)) ∧ Hid (Below w1.heap.size w1 wr))
  case atStart => exact ⟨0, rfl, Nat.zero_le _, rfl, Lib.hid ⟨rfl, .inl ⟨rfl, rfl⟩⟩, Lib.hid (Below.refl _ _)⟩
  case round =>
    obtain ⟨i, rfl, hin, rfl, HR, HB⟩ := hrel
    by_cases hlt : i < N
    · have hiz : (i : Int) < (N : Int) := by omega
      obtain ⟨g1, rfl⟩ := slq_pos HU2.out (by omega)
      obtain ⟨d, hd⟩ : ∃ d, PS[i]? = some d := ⟨_, List.getElem?_eq_getElem (by have := HN.out; omega)⟩
      obtain ⟨u, hu⟩ : ∃ u, us[i]? = some u := ⟨_, List.getElem?_eq_getElem (by have := HU1.out; omega)⟩
      obtain ⟨ua, uc, rfl⟩ := slq_any (HU3.out i _ u hd hu)
      obtain ⟨un, hun⟩ : ∃ m, d.com.length = m := ⟨_, rfl⟩
      rw [hun] at hu
      obtain ⟨z0, z1, z2, z3⟩ := prow_cells (row_keep HU2.out (fun g hg => HB.out.block g (row_lt HU2.out hg).2)) hlt hd hu
      have HT : Hid (((PS.map PropD.raw).take (i + 1)).map Value.string = ((PS.map PropD.raw).take i).map Value.string ++ [.string d.raw]) := Lib.hid (by
        rw [List.take_add_one, List.getElem?_map, hd, List.map_append]
        rfl)
      obtain ⟨KK, hKK⟩ : ∃ k, d.key = k := ⟨_, rfl⟩
      obtain ⟨R, hRR⟩ : ∃ k, d.raw = k := ⟨_, rfl⟩
      obtain ⟨VV, hVV⟩ : ∃ k, d.val = k := ⟨_, rfl⟩
      rw [hKK] at z0
      rw [hRR] at z1 HT
      rw [hVV] at z2
      have HBs := HB.out.size
      clear hd hu hun hKK hRR hVV
      go_wp2_with (at_builtin; refine wpList_append_own_at _ rfl _ _ 22 rfl w1.heap.size 9 i0 (.string ⟨#[]⟩) 1 16 Tryz.underlying22 hi hz0 hz1 hz2 rfl (by decide) u5 i (((PS.map PropD.raw).take i).map Value.string) rfl ((HR.out.alloc _).alloc _) ⟨wr.heap.size + 1, 0, none⟩ 1 1 [.string R] rfl rfl (by have := cell_one_new (wr.alloc (.cells #[.string KK, .string R, .string VV, .slice ua un uc] 31)) (.string R) 9; simpa using this) (by intro u hu; simp at hu; subst hu; rfl) (by unfold maxLen; omega) (by omega) (by simp; omega) ?_; intro v' w6 hown6 hgr6 _ hsh6; have HO6 := Lib.hid hown6; have HG6 := Lib.hid hgr6; clear hown6 hgr6 hsh6)
      have HR2 : Hid (w6.ownsRow w1.heap.size 9 1 v' (i + 1) (((PS.map PropD.raw).take (i + 1)).map Value.string)) := Lib.hid (by rw [HT.out]; exact HO6.out)
      have HB2 : Hid (Below w1.heap.size w1 w6) := Lib.hid (((HB.out.alloc HB.out.size _).alloc (by simp; omega) _).grown HG6.out (by simp; omega) (fun g hg => (row_lt HR.out hg).1))
      go_roundg (N - (i + 1))
      case measure => omega
      case rel => exact ⟨i + 1, by go_num, by omega, rfl, HR2, HB2⟩
    · have hiz : ¬ (i : Int) < (N : Int) := by omega
      obtain rfl : i = N := by omega
      have HR9 : Hid (wr.ownsRow w.heap.size 9 1 u5 i ((PS.map PropD.raw).map Value.string)) := Lib.hid (by
        have := HR.out
        rw [List.take_of_length_le (by rw [List.length_map, HN.out]; exact Nat.le_refl _)] at this
        exact row_base this HB1.out.size)
      have HB3 : Hid (Below w.heap.size w wr) := Lib.hid (bthen HB1.out HB.out)
      obtain ⟨nL, hnL⟩ : ∃ n, (lexL s).length = n := ⟨_, rfl⟩
      have hnb : nL ≤ 1000000 := by
        have h1 := lexN_len s (4 * s.size + 4) .before 0
        have h3 : nL = (lexN s (4 * s.size + 4) .before 0).length := hnL.symm
        omega
      have hpos : 0 < nL := by
        rw [← hnL]
        refine List.length_pos_iff.2 (fun e => ?_)
        have := wfI_lexL s
        rw [e] at this
        exact this
      have HNL := Lib.hid hnL
      clear HR HB hnL hiz hlt hin
      go_wp2_with (go_at_call 21; (with_reducible refine (HIT.out _ HB3.out).mono ?_); rintro e w5 ⟨v, rfl, hrow, hb5⟩; rw [HNL.out] at hrow; obtain ⟨G, cap, rfl⟩ := row_slq hrow hpos; have HROW := Lib.hid hrow; have HB5 : Hid (Below w.heap.size w w5) := Lib.hid (bthen HB3.out hb5); have HRX : Hid (w5.ownsRow w.heap.size 9 1 u5 i ((PS.map PropD.raw).map Value.string)) := Lib.hid (row_keep HR9.out (fun g hg => hb5.block g (row_lt HR9.out hg).2)); have HS5 := Lib.hid hb5.size; clear hrow hb5; dsimp only)
      obtain ⟨M, hM⟩ : ∃ M, (PS.map PropD.raw).map Value.string = M := ⟨_, rfl⟩
      have hML : M.length = i := by rw [← hM, List.length_map, List.length_map]; exact HN.out
      obtain ⟨IL, hIL⟩ : ∃ l, outI (lexL s) = l := ⟨_, rfl⟩
      have hILn : IL.length = nL := by rw [← hIL]; unfold outI; rw [List.length_map]; exact HNL.out
      rw [hM] at HRX
      rw [hIL] at HROW
      have HM := Lib.hid hM
      have HML := Lib.hid hML
      have HIL := Lib.hid hIL
      have HILN := Lib.hid hILn
      clear hM hIL hML hILn
      go_loopg [5, 37] nL (fun g' v5 v37 wq => ∃ j : Nat, v37 = .int .i64 (j : Int) ∧ j ≤ nL ∧ g' = nL - j ∧ Hid (wq.ownsRow w.heap.size 9 1 v5 (i + (textsOf (IL.take j)).length) (M ++ (textsOf (IL.take j)).map Value.string)) ∧ Hid (Below w.heap.size w wq) ∧ Hid (wq.heap[G]? = w5.heap[G]? ∧ G < wq.heap.size))
      case atStart => exact ⟨0, rfl, Nat.zero_le _, rfl, Lib.hid (by show w5.ownsRow _ _ _ _ (i + 0) (M ++ []); rw [List.append_nil]; exact HRX.out), HB5, Lib.hid ⟨rfl, (row_lt HROW.out rfl).2⟩⟩
      case round =>
        obtain ⟨j, rfl, hjn, rfl, HR, HB, HG⟩ := hrel
        have htl := texts_len (IL.take j)
        rw [List.length_take] at htl
        by_cases hlt : j < nL
        · have hiz : (j : Int) < (nL : Int) := by omega
          obtain ⟨x, hx⟩ : ∃ x, IL[j]? = some x := ⟨_, List.getElem?_eq_getElem (by have := HILN.out; omega)⟩
          have hrw := row_keep HROW.out (w' := wr) (fun g hg => by injection hg with hg; subst hg; exact HG.out.1)
          have x0 : wr.cell? ⟨G, j * 3, none⟩ = some (.int .i64 (x.kind : Int)) := (hrw.cellAt (j * 3) (by omega)).trans (by rw [Nat.mul_comm]; exact (itemsC_at _ j x hx).1)
          have x1 : wr.cell? ⟨G, j * 3 + 1, none⟩ = some (.int .i64 (x.pos : Int)) := (hrw.cellAt (j * 3 + 1) (by omega)).trans (by rw [Nat.mul_comm]; exact (itemsC_at _ j x hx).2.1)
          have x2 : wr.cell? ⟨G, j * 3 + 2, none⟩ = some (.string x.text) := (hrw.cellAt (j * 3 + 2) (by omega)).trans (by rw [Nat.mul_comm]; exact (itemsC_at _ j x hx).2.2)
          have HTX := Lib.hid (texts_at hx)
          obtain ⟨K, hK⟩ : ∃ K : Int, (x.kind : Int) = K := ⟨_, rfl⟩
          obtain ⟨P, hP⟩ : ∃ P : Int, (x.pos : Int) = P := ⟨_, rfl⟩
          obtain ⟨T, hTx⟩ : ∃ T, x.text = T := ⟨_, rfl⟩
          rw [hK] at x0
          rw [hP] at x1
          rw [hTx] at x2
          rw [hTx] at HTX
          obtain ⟨TL, hTL⟩ : ∃ l, textsOf (IL.take j) = l := ⟨_, rfl⟩
          rw [hTL] at HR HTX htl
          have HBs := HB.out.size
          clear hrw hx hTx hP hTL
          by_cases hk3 : x.kind = 3
          · obtain rfl : K = 3 := by omega
            have HT2 : Hid (textsOf (IL.take (j + 1)) = TL ++ [T]) := Lib.hid (by rw [HTX.out, if_pos hk3])
            clear hK
            obtain ⟨tn, htn⟩ : ∃ n, i + TL.length = n := ⟨_, rfl⟩
            rw [htn] at HR
            have htb : tn ≤ 3000000 := by omega
            have HTN := Lib.hid htn
            clear htn
            go_wp2_with (at_builtin; refine wpList_append_own_at _ rfl _ _ 22 rfl w.heap.size 9 i0 (.string ⟨#[]⟩) 1 16 Tryz.underlying22 hi hz0 hz1 hz2 rfl (by decide) u5 tn (M ++ TL.map Value.string) rfl ((HR.out.alloc _).alloc _) ⟨wr.heap.size + 1, 0, none⟩ 1 1 [.string T] rfl rfl (by have := cell_one_new (wr.alloc (.cells #[.int .i64 3, .int .i64 P, .string T] 46)) (.string T) 9; simpa using this) (by intro u hu; simp at hu; subst hu; rfl) (by unfold maxLen; omega) (by omega) (by simp; omega) ?_; intro v' w6 hown6 hgr6 _ hsh6; have HO6 := Lib.hid hown6; have HG6 := Lib.hid hgr6; clear hown6 hgr6 hsh6)
            have HR2 : Hid (w6.ownsRow w.heap.size 9 1 v' (i + (textsOf (IL.take (j + 1))).length) (M ++ (textsOf (IL.take (j + 1))).map Value.string)) := Lib.hid (by rw [HT2.out, List.map_append, ← List.append_assoc, List.length_append, show i + (TL.length + [T].length) = tn + 1 by have := HTN.out; simp; omega]; exact HO6.out)
            have HB2 : Hid (Below w.heap.size w w6) := Lib.hid (((HB.out.alloc HB.out.size _).alloc (by simp; omega) _).grown HG6.out (by simp; omega) (fun g hg => (row_lt HR.out hg).1))
            have HG2 : Hid (w6.heap[G]? = w5.heap[G]? ∧ G < w6.heap.size) := Lib.hid (by
              have h1 := HG6.out.size
              simp at h1
              refine ⟨((HG6.out.block G (by have := HG.out.2; simp; omega) (fun e => by
                obtain ⟨cs, hcs⟩ := row_cells HR.out e.symm
                obtain ⟨cs2, hcs2⟩ := row_cells HROW.out (g := G) rfl
                rw [HG.out.1, hcs2] at hcs
                injection hcs with hcs
                injection hcs with _ hcs
                exact absurd hcs (by decide))).trans ((Below.heap_alloc _ _ G (by have := HG.out.2; simp; omega)).trans (Below.heap_alloc wr _ G HG.out.2))).trans HG.out.1, by have := HG.out.2; omega⟩)
            go_roundg (nL - (j + 1))
            case measure => omega
            case rel => exact ⟨j + 1, by go_num, by omega, rfl, HR2, HB2, HG2⟩
          · have HT2 : Hid (textsOf (IL.take (j + 1)) = TL) := Lib.hid (by rw [HTX.out, if_neg hk3])
            have hKa : (K == (3 : Int)) = false := by rw [beq_eq_false_iff_ne]; omega
            clear hK
            go_wp2
            have HR2 : Hid ((wr.alloc (.cells #[.int .i64 K, .int .i64 P, .string T] 46)).ownsRow w.heap.size 9 1 u5 (i + (textsOf (IL.take (j + 1))).length) (M ++ (textsOf (IL.take (j + 1))).map Value.string)) := Lib.hid (by rw [HT2.out]; exact HR.out.alloc _)
            have HB2 : Hid (Below w.heap.size w (wr.alloc (.cells #[.int .i64 K, .int .i64 P, .string T] 46))) := Lib.hid (HB.out.alloc HB.out.size _)
            have HG2 : Hid ((wr.alloc (.cells #[.int .i64 K, .int .i64 P, .string T] 46)).heap[G]? = w5.heap[G]? ∧ G < (wr.alloc (.cells #[.int .i64 K, .int .i64 P, .string T] 46)).heap.size) := Lib.hid ⟨(Below.heap_alloc wr _ G HG.out.2).trans HG.out.1, by have := HG.out.2; simp; omega⟩
            go_roundg (nL - (j + 1))
            case measure => omega
            case rel => exact ⟨j + 1, by go_num, by omega, rfl, HR2, HB2, HG2⟩
        · have hiz : ¬ (j : Int) < (nL : Int) := by omega
          obtain rfl : j = nL := by omega
          have HR9 : Hid (wr.ownsRow w.heap.size 9 1 u5 (PS.map PropD.raw ++ textsOf (outI (lexL s))).length ((PS.map PropD.raw ++ textsOf (outI (lexL s))).map Value.string)) := Lib.hid (by
            have := HR.out
            rw [List.take_of_length_le (Nat.le_of_eq HILN.out)] at this
            rw [HIL.out, List.length_append, List.length_map, HN.out, List.map_append, HM.out]
            exact this)
          go_wp2
          go_ret
          exact ⟨u5, rfl, by simpa using HR9.out, HB.out⟩
set_option maxHeartbeats 4000000 in
set_option maxRecDepth 100000 in
theorem tame_any (s : ByteArray) (w : World) (hs : s.size ≤ 100000) (hT : Tabs w) (o : Option PSt) (ho : parL (lexL (unbom s)) [] pst0 = o) (hsz : ∀ x ∈ valsOf s o, x.size ≤ 1000000) (hlen : (valsOf s o).length ≤ 3000000) :
    Calls Tryz.prog 17 #[.string s, .int .i64 1] w fun e w' => e = .returned (.bool ((valsOf s o).all fun x => wh 0 x.data.toList)) ∧ Below w.heap.size w w' := by
  obtain ⟨L, hL⟩ : ∃ l, valsOf s o = l := ⟨_, rfl⟩
  have hV := values_any s w hs hT o ho
  rw [hL] at hV hsz hlen ⊢
  obtain ⟨B, hB⟩ : ∃ b, (L.all fun x => wh 0 x.data.toList) = b := ⟨_, rfl⟩
  rw [hB]
  have HV := Lib.hid hV
  have HSZ := Lib.hid hsz
  have HBB := Lib.hid hB
  obtain ⟨n, hn⟩ : ∃ n, L.length = n := ⟨_, rfl⟩
  rw [hn] at hlen
  have HN := Lib.hid hn
  clear hL hV hsz hB hn ho hT
  go_enter Tryz.func17, Tryz.ntmps17
  go_wp2_with (go_at_call 33; (with_reducible refine HV.out.mono ?_); rintro e w1 ⟨v, rfl, hr, hb1⟩; rw [HN.out] at hr; obtain ⟨a1, cp1, rfl⟩ := slq_any hr; have HR := Lib.hid hr; have HB1 := Lib.hid hb1; clear hr hb1; dsimp only)
  go_loopg [11] n (fun g' v11 wr => ∃ i : Nat, v11 = .int .i64 (i : Int) ∧ i ≤ n ∧ g' = n - i ∧ Hid (((L.take i).all fun x => wh 0 x.data.toList) = true) ∧ wr = w1)
  case atStart => exact ⟨0, rfl, Nat.zero_le _, rfl, Lib.hid rfl, rfl⟩
  case round =>
    obtain ⟨i, rfl, hin, rfl, HA, rfl⟩ := hrel
    by_cases hlt : i < n
    · have hiz : (i : Int) < (n : Int) := by omega
      obtain ⟨x, hx⟩ : ∃ x, L[i]? = some x := ⟨_, List.getElem?_eq_getElem (by have := HN.out; omega)⟩
      obtain ⟨g1, rfl⟩ := slq_pos HR.out (by omega)
      have x0 : wr.cell? ⟨g1, i, none⟩ = some (.string x) := by
        have := HR.out.cellAt i (by omega)
        rw [List.getElem?_map, hx] at this
        exact this
      have hxs := HSZ.out x (List.mem_of_getElem? hx)
      have HW := Lib.hid (whole_any x wr (by omega))
      have HX := Lib.hid hx
      obtain ⟨b, hb⟩ : ∃ b, wh 0 x.data.toList = b := ⟨_, rfl⟩
      rw [hb] at HW
      cases b with
      | true =>
        have HA2 : Hid (((L.take (i + 1)).all fun x => wh 0 x.data.toList) = true) := Lib.hid (by
          rw [List.take_add_one, hx, List.all_append, HA.out]
          simp [hb])
        clear hx hb
        go_wp2_with (go_at_call 34; (with_reducible refine HW.out.mono ?_); rintro e w2 ⟨rfl, rfl⟩; dsimp only)
        go_roundg (n - (i + 1))
        case measure => omega
        case rel => exact ⟨i + 1, by go_num, by omega, rfl, HA2, rfl⟩
      | false =>
        have HBF : Hid (B = false) := Lib.hid (by
          rw [← HBB.out, List.all_eq_false]
          exact ⟨x, List.mem_of_getElem? hx, by rw [hb]; simp⟩)
        clear hx hb
        go_wp2_with (go_at_call 34; (with_reducible refine HW.out.mono ?_); rintro e w2 ⟨rfl, rfl⟩; dsimp only)
        go_ret
        have hbf := HBF.out
        subst hbf
        exact ⟨rfl, HB1.out⟩
    · have hiz : ¬ (i : Int) < (n : Int) := by omega
      have HBT : Hid (B = true) := Lib.hid (by
        rw [← HBB.out, ← HA.out, List.take_of_length_le (by have := HN.out; omega)])
      go_wp2
      go_ret
      have hbt := HBT.out
      subst hbt
      exact ⟨rfl, HB1.out⟩
end Go.Proofs.YtackciefmdiphaaGreatDoor
