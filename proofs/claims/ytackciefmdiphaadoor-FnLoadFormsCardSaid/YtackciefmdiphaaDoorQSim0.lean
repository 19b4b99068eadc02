/- laws.letter, simple. -/
import Derived.Test.YtackciefmdiphaaDoorDec
import Derived.WalkKit
import Derived.LoopTactic
import Derived.Deep.LoopGhost
import Derived.Test.YtackciefmdiphaaDoorItLaw
import Derived.Lib.TrimAscii
import Derived.Test.YtackciefmdiphaaDoorLoadB
set_option linter.unusedVariables false
namespace Go.Proofs.YtackciefmdiphaaDoor
open Go.RowKit Plain

theorem byte_all {p : UInt8 → Bool} (h : ((List.range 256).all fun n => p (UInt8.ofNat n)) = true) (b : UInt8) : p b = true := by
  have := List.all_eq_true.1 h b.toNat (List.mem_range.2 b.toNat_lt)
  simpa using this
def capB (b : UInt8) : Bool := decide (65 ≤ b.toNat) && decide (b.toNat ≤ 90)
def lowB (b : UInt8) : Bool := decide (97 ≤ b.toNat) && decide (b.toNat ≤ 122)
def numB (b : UInt8) : Bool := decide (48 ≤ b.toNat) && decide (b.toNat ≤ 57)
theorem byte_at (s : ByteArray) (i : Nat) (h : i < s.size) : s.data.toList[i]? = some (s[i]'h) := by
  rw [Array.getElem?_toList, Array.getElem?_eq_getElem (by exact h)]
  rfl

def alnB (b : UInt8) : Bool := capB b || lowB b || numB b
def simB (p : ByteArray) : Bool := p.data.toList.all alnB && decide (0 < p.size)
theorem letter_any (x : UInt8) (w : World) :
    Calls Tryd.prog 7 #[.int .u8 (x.toNat : Int)] w fun e w' => e = .returned (.bool (capB x || lowB x)) ∧ w' = w := by
  have hx := x.toNat_lt
  obtain ⟨L, hL⟩ : ∃ L, (capB x || lowB x) = L := ⟨_, rfl⟩
  rw [hL]
  unfold capB lowB at hL
  generalize x.toNat = c at hL hx ⊢
  by_cases h1 : (97 : Int) ≤ (c : Int)
  · by_cases h2 : (c : Int) ≤ 122
    · obtain rfl : L = true := by rw [← hL]; simp; omega
      clear hL
      go_enter Tryd.func7, Tryd.ntmps7
      go_wp2
      go_ret
      exact ⟨rfl, rfl⟩
    · obtain rfl : L = false := by rw [← hL]; simp; omega
      have h3 : ¬ (c : Int) ≤ 90 := by omega
      have h4 : (65 : Int) ≤ (c : Int) := by omega
      clear hL
      go_enter Tryd.func7, Tryd.ntmps7
      go_wp2
      go_ret
      exact ⟨rfl, rfl⟩
  · by_cases h2 : (65 : Int) ≤ (c : Int)
    · by_cases h3 : (c : Int) ≤ 90
      · obtain rfl : L = true := by rw [← hL]; simp; omega
        clear hL
        go_enter Tryd.func7, Tryd.ntmps7
        go_wp2
        go_ret
        exact ⟨rfl, rfl⟩
      · obtain rfl : L = false := by rw [← hL]; simp; omega
        clear hL
        go_enter Tryd.func7, Tryd.ntmps7
        go_wp2
        go_ret
        exact ⟨rfl, rfl⟩
    · obtain rfl : L = false := by rw [← hL]; simp; omega
      clear hL
      go_enter Tryd.func7, Tryd.ntmps7
      go_wp2
      go_ret
      exact ⟨rfl, rfl⟩

theorem aln_of (x : UInt8) : (capB x || lowB x) = true ∧ alnB x = true ∨ (capB x || lowB x) = false ∧ alnB x = true ∧ (48 : Int) ≤ x.toNat ∧ (x.toNat : Int) ≤ 57 ∨ (capB x || lowB x) = false ∧ alnB x = false ∧ ((x.toNat : Int) < 48 ∨ (57 : Int) < x.toNat) := by
  unfold alnB capB lowB numB
  generalize x.toNat = c
  simp
  omega

set_option maxHeartbeats 2000000 in
set_option maxRecDepth 100000 in
theorem simple_any (s : ByteArray) (w : World) (hs : s.size ≤ 140737488355328) :
    Calls Tryd.prog 5 #[.string s] w fun e w' => e = .returned (.bool (simB s)) ∧ w' = w := by
  go_enter Tryd.func5, Tryd.ntmps5
  go_wp2
  go_loopw [3] (fun iv wr => ∃ (i : Nat), iv = .int .i64 i ∧ i ≤ s.size ∧ (∀ j b, j < i → s.data.toList[j]? = some b → alnB b = true) ∧ wr = w) (fun iv _ => match iv with | .int _ i => s.size - i.toNat | _ => 0)
  case atStart => exact ⟨0, rfl, Nat.zero_le _, fun j b h => by omega, rfl⟩
  case round =>
    obtain ⟨i, rfl, his, hno, rfl⟩ := hrel
    have HN := Lib.hid hno
    clear hno
    by_cases hlt : i < s.size
    · have hz : (i : Int) < (s.size : Int) := by omega
      have hat := byte_at s i hlt
      have HA := Lib.hid hat
      clear hat
      have hx256 : ((s[i]'hlt).toNat : Int) < 256 := by have := (s[i]'hlt).toNat_lt; omega
      have HL := Lib.hid (fun w => letter_any (s[i]'hlt) w)
      rcases aln_of (s[i]'hlt) with ⟨h1, h2⟩ | ⟨h1, h2, h3, h4⟩ | ⟨h1, h2, h3⟩
      · rw [h1] at HL
        have H2 := Lib.hid h2
        clear h1 h2
        go_wp2_with (go_at_call 7; (with_reducible refine (HL.out _).mono ?_); rintro e w1 ⟨rfl, rfl⟩; dsimp only)
        go_roundw
        case rel =>
          refine ⟨i + 1, by go_num, by omega, fun j b h1 h2 => ?_, trivial⟩
          by_cases hji : j < i
          · exact HN.out j b hji h2
          · obtain rfl : j = i := by omega
            rw [HA.out] at h2
            obtain rfl := Option.some.inj h2
            exact H2.out
        case measure => show s.size - ((i : Int) + 1).toNat < s.size - (i : Int).toNat; omega
      · rw [h1] at HL
        have H2 := Lib.hid h2
        have h3z : ¬ ((s[i]'hlt).toNat : Int) < 48 := by omega
        have h4z : ¬ (57 : Int) < ((s[i]'hlt).toNat : Int) := by omega
        clear h1 h2 h3 h4
        go_wp2_with (go_at_call 7; (with_reducible refine (HL.out _).mono ?_); rintro e w1 ⟨rfl, rfl⟩; dsimp only)
        go_roundw
        case rel =>
          refine ⟨i + 1, by go_num, by omega, fun j b h1 h2 => ?_, trivial⟩
          by_cases hji : j < i
          · exact HN.out j b hji h2
          · obtain rfl : j = i := by omega
            rw [HA.out] at h2
            obtain rfl := Option.some.inj h2
            exact H2.out
        case measure => show s.size - ((i : Int) + 1).toNat < s.size - (i : Int).toNat; omega
      · rw [h1] at HL
        have hfin : Hid (simB s = false) := by
          refine Lib.hid ?_
          have hno : ¬ s.data.toList.all alnB = true := fun h => by
            have := List.all_eq_true.1 h _ (List.mem_of_getElem? HA.out)
            rw [h2] at this
            cases this
          unfold simB
          rw [Bool.eq_false_iff.2 hno]
          rfl
        clear h1 h2
        by_cases e0 : ((s[i]'hlt).toNat : Int) < 48
        · clear h3
          go_wp2_with (go_at_call 7; (with_reducible refine (HL.out _).mono ?_); rintro e w1 ⟨rfl, rfl⟩; dsimp only)
          go_ret
          exact ⟨ret_bool hfin.out.symm, rfl⟩
        · have e9 : (57 : Int) < ((s[i]'hlt).toNat : Int) := by omega
          clear h3
          go_wp2_with (go_at_call 7; (with_reducible refine (HL.out _).mono ?_); rintro e w1 ⟨rfl, rfl⟩; dsimp only)
          go_ret
          exact ⟨ret_bool hfin.out.symm, rfl⟩
    · have hz : ¬ (i : Int) < (s.size : Int) := by omega
      have hall : s.data.toList.all alnB = true := List.all_eq_true.2 fun b hb => by
        obtain ⟨j, hj⟩ := List.getElem?_of_mem hb
        have := (List.getElem?_eq_some_iff.1 hj).1
        rw [← Lib.size_eq] at this
        exact HN.out j b (by omega) hj
      by_cases h0 : 0 < s.size
      · have h0z : (0 : Int) < (s.size : Int) := by omega
        have hfin : Hid (simB s = true) := Lib.hid (by unfold simB; rw [hall, decide_eq_true h0]; rfl)
        clear hall
        go_wp2
        go_ret
        exact ⟨ret_bool hfin.out.symm, rfl⟩
      · have h0z : ¬ (0 : Int) < (s.size : Int) := by omega
        have hfin : Hid (simB s = false) := Lib.hid (by unfold simB; rw [hall, decide_eq_false h0]; rfl)
        clear hall
        go_wp2
        go_ret
        exact ⟨ret_bool hfin.out.symm, rfl⟩
theorem simB_bare {p : ByteArray} (h : simB p = true) : p.data.toList ≠ [] ∧ ∀ c ∈ p.data.toList, alnB c = true := by
  unfold simB at h
  rw [Bool.and_eq_true] at h
  refine ⟨fun e => ?_, List.all_eq_true.1 h.1⟩
  have := of_decide_eq_true h.2
  rw [Lib.size_eq, e] at this
  exact absurd this (by decide)
theorem aln_asc {c : UInt8} (h : alnB c = true) : c.toNat < 128 ∧ c.toNat ≠ 92 ∧ c.toNat ≠ 45 ∧ c.toNat ≠ 94 := by
  have := byte_all (p := fun c => !(alnB c) || (decide (c.toNat < 128) && !(c.toNat == 92) && !(c.toNat == 45) && !(c.toNat == 94))) (by decide +kernel) c
  rw [h] at this
  simpa [and_assoc] using this
end Go.Proofs.YtackciefmdiphaaDoor

set_option linter.unusedVariables false
namespace Go.Proofs.YtackciefmdiphaaDoor
open Go.RowKit Plain Go.Maps

/-- what stands from a place on -/
def atL (s : ByteArray) (p : Nat) (l : List UInt8) : Prop := s.data.toList.drop p = l
theorem atL_next {s : ByteArray} {p : Nat} {x : UInt8} {r : List UInt8} (h : atL s p (x :: r)) : atL s (p + 1) r := by
  unfold atL at h ⊢
  rw [← List.drop_drop, h]
  rfl
theorem atL_app {s : ByteArray} {p : Nat} : ∀ {l r : List UInt8}, atL s p (l ++ r) → atL s (p + l.length) r := by
  intro l r h
  unfold atL at h ⊢
  rw [← List.drop_drop, h, List.drop_left]
theorem atL_lt {s : ByteArray} {p : Nat} {x : UInt8} {r : List UInt8} (h : atL s p (x :: r)) : p < s.size := by
  unfold atL at h
  have := congrArg List.length h
  rw [List.length_drop, ← Lib.size_eq] at this
  simp at this
  omega
theorem atL_end {s : ByteArray} {p : Nat} (h : atL s p []) : ¬ p < s.size := by
  unfold atL at h
  have := congrArg List.length h
  rw [List.length_drop, ← Lib.size_eq] at this
  simp at this
  omega
theorem atL_dec {s : ByteArray} {p : Nat} {x : UInt8} {r : List UInt8} (h : atL s p (x :: r)) (hx : x.toNat < 128) : rAt s p = x.toNat ∧ kAt s p = 1 := by
  unfold atL at h
  have h1 := Lib.decodeL_drop s p
  rw [h, Lib.decodeL_ascii x r hx] at h1
  unfold rAt kAt
  rw [← h1]
  exact ⟨rfl, rfl⟩
theorem aln_rng {c : UInt8} (h : alnB c = true) : (48 ≤ c.toNat ∧ c.toNat ≤ 57) ∨ (65 ≤ c.toNat ∧ c.toNat ≤ 90) ∨ (97 ≤ c.toNat ∧ c.toNat ≤ 122) := by
  unfold alnB capB lowB numB at h
  simp at h
  omega
/-- signs of a key that stand for themselves -/
def keyC (c : UInt8) : Prop := c.toNat < 128 ∧ c.toNat ≠ 92 ∧ endK c.toNat = false
/-- signs of a value that stand for themselves -/
def valC (c : UInt8) : Prop := c.toNat < 128 ∧ c.toNat ≠ 92 ∧ eolR c.toNat = false
theorem aln_key {c : UInt8} (h : alnB c = true) : keyC c := by
  have := aln_rng h
  refine ⟨by omega, by omega, ?_⟩
  unfold endK
  simp
  omega
theorem aln_val {c : UInt8} (h : alnB c = true) : valC c := by
  have := aln_rng h
  refine ⟨by omega, by omega, ?_⟩
  unfold eolR
  simp
  omega
theorem key_run (s : ByteArray) : ∀ (ks : List UInt8) (p : Nat) (acc : List Nat) (rest : List UInt8), (∀ c ∈ ks, keyC c) → atL s p (ks ++ rest) → keyL s p acc = keyL s (p + ks.length) (acc ++ ks.map (·.toNat)) := by
  intro ks
  induction ks with
  | nil => intro p acc rest h1 h2; simp
  | cons c ks ih =>
    intro p acc rest h1 h2
    obtain ⟨a1, a2, a3⟩ := h1 c List.mem_cons_self
    obtain ⟨d1, d2⟩ := atL_dec h2 a1
    conv => lhs; unfold keyL
    rw [dif_pos (atL_lt h2), d1, if_neg a2, a3, if_neg (by simp), d2]
    rw [ih (p + 1) (acc ++ [c.toNat]) rest (fun x hx => h1 x (List.mem_cons_of_mem _ hx)) (atL_next h2)]
    congr 1
    · simp; omega
    · simp
theorem key_stop (s : ByteArray) (p : Nat) (acc : List Nat) (x : UInt8) (rest : List UInt8) (h : atL s p (x :: rest)) (h1 : x.toNat < 128) (h2 : x.toNat ≠ 92) (h3 : endK x.toNat = true) : keyL s p acc = .ok (acc, p, false) := by
  obtain ⟨d1, d2⟩ := atL_dec h h1
  unfold keyL
  rw [dif_pos (atL_lt h), d1, if_neg h2, if_pos h3]
theorem val_run (s : ByteArray) : ∀ (ks : List UInt8) (p : Nat) (acc : List Nat) (rest : List UInt8), (∀ c ∈ ks, valC c) → atL s p (ks ++ rest) → valL s p acc = valL s (p + ks.length) (acc ++ ks.map (·.toNat)) := by
  intro ks
  induction ks with
  | nil => intro p acc rest h1 h2; simp
  | cons c ks ih =>
    intro p acc rest h1 h2
    obtain ⟨a1, a2, a3⟩ := h1 c List.mem_cons_self
    obtain ⟨d1, d2⟩ := atL_dec h2 a1
    conv => lhs; unfold valL
    rw [dif_pos (atL_lt h2), d1, if_neg a2, a3, if_neg (by simp), d2]
    rw [ih (p + 1) (acc ++ [c.toNat]) rest (fun x hx => h1 x (List.mem_cons_of_mem _ hx)) (atL_next h2)]
    congr 1
    · simp; omega
    · simp
theorem val_stop (s : ByteArray) (p : Nat) (acc : List Nat) (rest : List UInt8) (h : atL s p (10 :: rest)) : valL s p acc = .ok (acc, p + 1, false) := by
  obtain ⟨d1, d2⟩ := atL_dec h (by decide)
  have d1' : rAt s p = 10 := d1
  unfold valL
  rw [dif_pos (atL_lt h), d1', if_neg (by decide), if_pos (by decide), d2]
theorem skip_run (s : ByteArray) : ∀ (bl : List UInt8) (p : Nat) (rest : List UInt8), (∀ c ∈ bl, c.toNat < 128 ∧ wsR c.toNat = true) → atL s p (bl ++ rest) → skipW s p = skipW s (p + bl.length) := by
  intro bl
  induction bl with
  | nil => intro p rest h1 h2; simp
  | cons c bl ih =>
    intro p rest h1 h2
    obtain ⟨a1, a2⟩ := h1 c List.mem_cons_self
    obtain ⟨d1, d2⟩ := atL_dec h2 a1
    conv => lhs; unfold skipW
    rw [dif_pos (atL_lt h2), d1, if_pos a2, d2]
    rw [ih (p + 1) rest (fun x hx => h1 x (List.mem_cons_of_mem _ hx)) (atL_next h2)]
    congr 1
    simp
    omega
theorem skip_stop (s : ByteArray) (p : Nat) (x : UInt8) (rest : List UInt8) (h : atL s p (x :: rest)) (h1 : x.toNat < 128) (h2 : wsR x.toNat = false) : skipW s p = p := by
  obtain ⟨d1, d2⟩ := atL_dec h h1
  unfold skipW
  rw [dif_pos (atL_lt h), d1, if_neg (by rw [h2]; simp)]
/-- a value goes on behind a backslash and a line's end -/
theorem val_more (s : ByteArray) (p : Nat) (acc : List Nat) (bl : List UInt8) (x : UInt8) (rest : List UInt8) (h : atL s p (92 :: 10 :: (bl ++ x :: rest))) (hb : ∀ c ∈ bl, c.toNat < 128 ∧ wsR c.toNat = true) (h1 : x.toNat < 128) (h2 : wsR x.toNat = false) : valL s p acc = valL s (p + 2 + bl.length) acc := by
  obtain ⟨d1, d2⟩ := atL_dec h (by decide)
  have hn := atL_next h
  obtain ⟨e1, e2⟩ := atL_dec hn (by decide)
  have d1' : rAt s p = 92 := d1
  have e1' : rAt s (p + 1) = 10 := e1
  have hnn := atL_next hn
  conv => lhs; unfold valL
  rw [dif_pos (atL_lt h), d1', if_pos rfl]
  rw [dif_pos (by rw [d2]; exact ⟨atL_lt hn, by rw [e1']; decide⟩)]
  rw [d2, e2]
  have hsk := skip_run s bl (p + 1 + 1) (x :: rest) hb hnn
  rw [hsk, skip_stop s _ x rest (atL_app hnn) h1 h2]
/-- between a key and its value -/
theorem bval_at (s : ByteArray) (p : Nat) (b1 cs b2 : List UInt8) (x : UInt8) (rest : List UInt8) (h : atL s p (b1 ++ (cs ++ (b2 ++ x :: rest)))) (h1 : ∀ c ∈ b1, c.toNat < 128 ∧ wsR c.toNat = true) (h2 : ∀ c ∈ b2, c.toNat < 128 ∧ wsR c.toNat = true) (hc : cs = [61] ∨ cs = [58] ∨ (cs = [] ∧ b2 = [])) (hx : alnB x = true ∨ x = 60) : bvalP s p = p + b1.length + cs.length + b2.length := by
  have hx1 : x.toNat < 128 ∧ wsR x.toNat = false ∧ ¬ (x.toNat = 58 ∨ x.toNat = 61) := by
    rcases hx with hx | rfl
    · have := aln_rng hx
      refine ⟨by omega, ?_, by omega⟩
      unfold wsR
      simp
      omega
    · decide
  obtain ⟨x1, x2, x3⟩ := hx1
  have ha := atL_app h
  unfold bvalP
  rw [skip_run s b1 p _ h1 h]
  rcases hc with rfl | rfl | ⟨rfl, rfl⟩
  · rw [skip_stop s _ 61 _ ha (by decide) (by decide)]
    obtain ⟨d1, d2⟩ := atL_dec ha (by decide)
    have d1' : rAt s (p + b1.length) = 61 := d1
    have hn := atL_next ha
    have e : accS s (p + b1.length) = p + b1.length + 1 := by unfold accS; rw [if_pos (atL_lt ha), d1', if_pos (by decide), d2]
    rw [e, skip_run s b2 _ _ h2 hn, skip_stop s _ x rest (atL_app hn) x1 x2]
    rfl
  · rw [skip_stop s _ 58 _ ha (by decide) (by decide)]
    obtain ⟨d1, d2⟩ := atL_dec ha (by decide)
    have d1' : rAt s (p + b1.length) = 58 := d1
    have hn := atL_next ha
    have e : accS s (p + b1.length) = p + b1.length + 1 := by unfold accS; rw [if_pos (atL_lt ha), d1', if_pos (by decide), d2]
    rw [e, skip_run s b2 _ _ h2 hn, skip_stop s _ x rest (atL_app hn) x1 x2]
    rfl
  · have ha' : atL s (p + b1.length) (x :: rest) := ha
    rw [skip_stop s _ x rest ha' x1 x2]
    obtain ⟨d1, d2⟩ := atL_dec ha' x1
    have e : accS s (p + b1.length) = p + b1.length := by unfold accS; rw [if_pos (atL_lt ha'), d1, if_neg x3]
    rw [e, skip_stop s _ x rest ha' x1 x2]
    rfl
/-! steps of the lexer -/
theorem lex_ws (s : ByteArray) (m p : Nat) (x : UInt8) (rest : List UInt8) (h : atL s p (x :: rest)) (hx : x = 32 ∨ x = 10) : lexN s (m + 1) .before p = lexN s m .before (p + 1) := by
  have h1 : x.toNat < 128 := by rcases hx with rfl | rfl <;> decide
  obtain ⟨d1, d2⟩ := atL_dec h h1
  conv => lhs; unfold lexN lexS
  dsimp only
  simp only [if_pos (atL_lt h), d1, d2]
  rcases hx with rfl | rfl
  · simp [eolR, wsR]
  · simp [eolR]
theorem lex_end (s : ByteArray) (m p : Nat) (h : atL s p []) : lexN s (m + 1) .before p = [⟨1, p, emptyB⟩] := by
  conv => lhs; unfold lexN lexS
  dsimp only
  simp only [if_neg (atL_end h)]
  rfl
theorem lex_kv (s : ByteArray) (m p q r t : Nat) (x : UInt8) (rest : List UInt8) (ka va : List Nat) (h : atL s p (x :: rest)) (hx : alnB x = true) (hk : keyL s p [] = .ok (ka, q, false)) (hne : ka ≠ []) (hb : bvalP s q = r) (hv : valL s r [] = .ok (va, t, false)) :
    lexN s (m + 4) .before p = ⟨2, p, textOf ka⟩ :: ⟨3, r, textOf va⟩ :: lexN s m .before t := by
  have hr := aln_rng hx
  obtain ⟨d1, d2⟩ := atL_dec h (by omega)
  have h1 : lexN s (m + 4) .before p = lexN s (m + 3) .key p := by
    conv => lhs; unfold lexN lexS
    dsimp only
    simp only [if_pos (atL_lt h), d1]
    have e1 : eolR x.toNat = false := by unfold eolR; simp; omega
    have e2 : ¬ (x.toNat = 35 ∨ x.toNat = 33) := by omega
    have e3 : wsR x.toNat = false := by unfold wsR; simp; omega
    simp [e1, e2, e3]
  have h2 : lexN s (m + 3) .key p = ⟨2, p, textOf ka⟩ :: lexN s (m + 2) .bval q := by
    conv => lhs; unfold lexN lexS
    simp [hk, hne]
  have h3 : lexN s (m + 2) .bval q = lexN s (m + 1) .val r := by
    conv => lhs; unfold lexN lexS
    simp [hb]
  have h4 : lexN s (m + 1) .val r = ⟨3, r, textOf va⟩ :: lexN s m .before t := by
    conv => lhs; unfold lexN lexS
    simp [hv]
  rw [h1, h2, h3, h4]
theorem enc_asc (b : UInt8) (h : b.toNat < 128) : Lib.encodeRune (b.toNat : Int) = [b] := by
  unfold Lib.encodeRune
  rw [Lib.encodeRuneZ_one (by omega) (by omega)]
  simp
theorem textOf_asc : ∀ (l : List UInt8), (∀ b ∈ l, b.toNat < 128) → textOf (l.map (·.toNat)) = ⟨l.toArray⟩ := by
  intro l h
  unfold textOf
  congr 2
  induction l with
  | nil => rfl
  | cons b l ih =>
    simp only [List.map_cons, List.flatten_cons]
    rw [enc_asc b (h b List.mem_cons_self), ih (fun c hc => h c (List.mem_cons_of_mem _ hc))]
    rfl
end Go.Proofs.YtackciefmdiphaaDoor

set_option linter.unusedVariables false
namespace Go.Proofs.YtackciefmdiphaaDoor
open Go.RowKit Plain Go.Maps

theorem wsb : ∀ c ∈ ([32, 9] : List UInt8), c.toNat < 128 ∧ wsR c.toNat = true := by decide
theorem form_lex (s : ByteArray) (key a b b1 cs b2 : List UInt8) (y : UInt8) (R : List UInt8) (hs : s.data.toList = 32 :: (key ++ (b1 ++ (cs ++ (b2 ++ (a ++ (92 :: 10 :: ([32, 9] ++ (b ++ [10, 10])))))))))
    (hy : b1 ++ (cs ++ (b2 ++ (a ++ (92 :: 10 :: ([32, 9] ++ (b ++ [10, 10])))))) = y :: R) (hy1 : y.toNat < 128) (hy2 : y.toNat ≠ 92) (hy3 : endK y.toNat = true)
    (hk : key ≠ []) (ha : a ≠ []) (hb : b ≠ []) (hka : ∀ c ∈ key, alnB c = true) (haa : ∀ c ∈ a, alnB c = true) (hba : ∀ c ∈ b, alnB c = true)
    (h1 : ∀ c ∈ b1, c.toNat < 128 ∧ wsR c.toNat = true) (h2 : ∀ c ∈ b2, c.toNat < 128 ∧ wsR c.toNat = true) (hc : cs = [61] ∨ cs = [58] ∨ (cs = [] ∧ b2 = [])) :
    ∃ P E, lexL s = [⟨2, 1, ⟨key.toArray⟩⟩, ⟨3, P, ⟨(a ++ b).toArray⟩⟩, ⟨1, E, emptyB⟩] := by
  have h0 : atL s 0 (32 :: (key ++ (b1 ++ (cs ++ (b2 ++ (a ++ (92 :: 10 :: ([32, 9] ++ (b ++ [10, 10]))))))))) := by unfold atL; rw [List.drop_zero]; exact hs
  have p1 := atL_next h0
  rw [Nat.zero_add] at p1
  have p2 := atL_app p1
  have p3 := atL_app (atL_app (atL_app p2))
  have p4 := atL_app p3
  obtain ⟨x, a', rfl⟩ := List.exists_cons_of_ne_nil ha
  obtain ⟨z, b', rfl⟩ := List.exists_cons_of_ne_nil hb
  obtain ⟨u, k', rfl⟩ := List.exists_cons_of_ne_nil hk
  have p5 := atL_app (l := [32, 9]) (atL_next (atL_next p4))
  have p6 := atL_app (l := z :: b') p5
  have hkey : keyL s 1 [] = .ok ((u :: k').map (·.toNat), 1 + (u :: k').length, false) := by
    rw [key_run s (u :: k') 1 [] _ (fun c hc => aln_key (hka c hc)) p1]
    exact key_stop s _ _ y R (by rw [← hy]; exact p2) hy1 hy2 hy3
  have p2' : atL s (1 + (u :: k').length) (b1 ++ (cs ++ (b2 ++ x :: (a' ++ (92 :: 10 :: ([32, 9] ++ (z :: b' ++ [10, 10]))))))) := by rw [List.cons_append] at p2; exact p2
  have hbv := bval_at s (1 + (u :: k').length) b1 cs b2 x (a' ++ (92 :: 10 :: ([32, 9] ++ (z :: b' ++ [10, 10])))) p2' h1 h2 hc (.inl (haa x List.mem_cons_self))
  have hz := aln_rng (hba z List.mem_cons_self)
  have hval : valL s (1 + (u :: k').length + b1.length + cs.length + b2.length) [] = .ok ((x :: a').map (·.toNat) ++ (z :: b').map (·.toNat), 1 + (u :: k').length + b1.length + cs.length + b2.length + (x :: a').length + 1 + 1 + ([32, 9] : List UInt8).length + (z :: b').length + 1, false) := by
    rw [val_run s (x :: a') _ [] _ (fun c hc => aln_val (haa c hc)) p3]
    have hm := val_more s _ ([] ++ (x :: a').map (·.toNat)) [32, 9] z (b' ++ [10, 10]) p4 wsb (by omega) (by unfold wsR; simp; omega)
    rw [hm]
    have hr := val_run s (z :: b') _ ([] ++ (x :: a').map (·.toNat)) [10, 10] (fun c hc => aln_val (hba c hc)) p5
    rw [show 1 + (u :: k').length + b1.length + cs.length + b2.length + (x :: a').length + 2 + ([32, 9] : List UInt8).length = 1 + (u :: k').length + b1.length + cs.length + b2.length + (x :: a').length + 1 + 1 + ([32, 9] : List UInt8).length by omega]
    rw [hr]
    exact val_stop s _ _ [10] p6
  obtain ⟨m, hm⟩ : ∃ m, 4 * s.size + 4 = m + 2 + 4 + 1 := ⟨4 * s.size + 4 - 7, by have := atL_lt h0; omega⟩
  have p7 := atL_next p6
  have p8 := atL_next p7
  unfold lexL
  rw [hm, lex_ws s _ 0 32 _ h0 (.inl rfl), Nat.zero_add]
  rw [lex_kv s (m + 2) 1 _ _ _ u _ _ _ p1 (hka u List.mem_cons_self) hkey (by simp) hbv hval]
  rw [lex_ws s (m + 1) _ 10 _ p7 (.inr rfl), lex_end s m _ p8]
  rw [textOf_asc _ (fun c hc => (aln_key (hka c hc)).1), ← List.map_append, textOf_asc ((x :: a') ++ (z :: b')) (fun c hc => by
    rcases List.mem_append.1 hc with h | h
    · exact (aln_key (haa c h)).1
    · exact (aln_key (hba c h)).1)]
  exact ⟨_, _, rfl⟩
def pOne (K V : ByteArray) : PSt := putV (addC (addK pst0 K) K []) K V
theorem par_one (K V : ByteArray) (i j k : Nat) : parL [⟨2, i, K⟩, ⟨3, j, V⟩, ⟨1, k, emptyB⟩] [] pst0 = some (pOne K V) := by
  unfold parL
  simp
  unfold parL
  simp
  rfl
theorem pOne_ks (K V : ByteArray) : (pOne K V).ks = [K] := rfl
theorem pOne_raw (K V : ByteArray) : rawOf (pOne K V).D K = V := by
  show rawOf ((DataW.map []).put (keyL8 K) (.lit (.string V.data.toList))) K = V
  rw [rawOf_put isMap_empty, if_pos rfl]
theorem form_par (s : ByteArray) (key a b b1 cs b2 : List UInt8) (y : UInt8) (R : List UInt8) (hs : s.data.toList = 32 :: (key ++ (b1 ++ (cs ++ (b2 ++ (a ++ (92 :: 10 :: ([32, 9] ++ (b ++ [10, 10])))))))))
    (hy : b1 ++ (cs ++ (b2 ++ (a ++ (92 :: 10 :: ([32, 9] ++ (b ++ [10, 10])))))) = y :: R) (hy1 : y.toNat < 128) (hy2 : y.toNat ≠ 92) (hy3 : endK y.toNat = true)
    (hk : key ≠ []) (ha : a ≠ []) (hb : b ≠ []) (hka : ∀ c ∈ key, alnB c = true) (haa : ∀ c ∈ a, alnB c = true) (hba : ∀ c ∈ b, alnB c = true)
    (h1 : ∀ c ∈ b1, c.toNat < 128 ∧ wsR c.toNat = true) (h2 : ∀ c ∈ b2, c.toNat < 128 ∧ wsR c.toNat = true) (hc : cs = [61] ∨ cs = [58] ∨ (cs = [] ∧ b2 = [])) :
    parL (lexL (unbom s)) [] pst0 = some (pOne ⟨key.toArray⟩ ⟨(a ++ b).toArray⟩) := by
  have hbo : bomB s = false := by
    unfold bomB Lib.hasPrefix
    rw [hs]
    rfl
  obtain ⟨P, E, hl⟩ := form_lex s key a b b1 cs b2 y R hs hy hy1 hy2 hy3 hk ha hb hka haa hba h1 h2 hc
  rw [unbom_no hbo, hl]
  exact par_one _ _ _ _ _
end Go.Proofs.YtackciefmdiphaaDoor
