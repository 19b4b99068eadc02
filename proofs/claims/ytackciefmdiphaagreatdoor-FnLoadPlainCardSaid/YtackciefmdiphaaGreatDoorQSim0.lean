/- laws.letter, simple. -/
import Derived.Test.YtackciefmdiphaaGreatDoorDec
import Derived.WalkKit
import Derived.LoopTactic
import Derived.Deep.LoopGhost
import Derived.Test.YtackciefmdiphaaGreatDoorItLaw
import Derived.Lib.TrimAscii
import Derived.Test.YtackciefmdiphaaGreatDoorParBd
import Derived.Test.YtackciefmdiphaaGreatDoorLoadB
import Derived.Test.YtackciefmdiphaaGreatDoorExpI
set_option linter.unusedVariables false
namespace Go.Proofs.YtackciefmdiphaaGreatDoor
open Go.RowKit Plain

theorem byte_all {p : UInt8 → Bool} (h : ((List.range 256).all fun n => p (UInt8.ofNat n)) = true) (b : UInt8) : p b = true := by
  have := List.all_eq_true.1 h b.toNat (List.mem_range.2 b.toNat_lt)
  simpa using this
def capB (b : UInt8) : Bool := decide (65 ≤ b.toNat) && decide (b.toNat ≤ 90)
def lowB (b : UInt8) : Bool := decide (97 ≤ b.toNat) && decide (b.toNat ≤ 122)
def numB (b : UInt8) : Bool := decide (48 ≤ b.toNat) && decide (b.toNat ≤ 57)
theorem byte_at (s : ByteArray) (i : Nat) (h : i < s.size) : s.data.toList[i]? = some (s[i]'h) := by
  rw [Array.getElem?_toList, Array.getElem?_eq_getElem (by exact h)]
  rfl

def alnB (b : UInt8) : Bool := capB b || lowB b || numB b
def simB (p : ByteArray) : Bool := p.data.toList.all alnB && decide (0 < p.size)
theorem letter_any (x : UInt8) (w : World) :
    Calls Tryz.prog 30 #[.int .u8 (x.toNat : Int)] w fun e w' => e = .returned (.bool (capB x || lowB x)) ∧ w' = w := by
  have hx := x.toNat_lt
  obtain ⟨L, hL⟩ : ∃ L, (capB x || lowB x) = L := ⟨_, rfl⟩
  rw [hL]
  unfold capB lowB at hL
  generalize x.toNat = c at hL hx ⊢
  by_cases h1 : (97 : Int) ≤ (c : Int)
  · by_cases h2 : (c : Int) ≤ 122
    · obtain rfl : L = true := by rw [← hL]; simp; omega
      clear hL
      go_enter Tryz.func30, Tryz.ntmps30
      go_wp2
      go_ret
      exact ⟨rfl, rfl⟩
    · obtain rfl : L = false := by rw [← hL]; simp; omega
      have h3 : ¬ (c : Int) ≤ 90 := by omega
      have h4 : (65 : Int) ≤ (c : Int) := by omega
      clear hL
      go_enter Tryz.func30, Tryz.ntmps30
      go_wp2
      go_ret
      exact ⟨rfl, rfl⟩
  · by_cases h2 : (65 : Int) ≤ (c : Int)
    · by_cases h3 : (c : Int) ≤ 90
      · obtain rfl : L = true := by rw [← hL]; simp; omega
        clear hL
        go_enter Tryz.func30, Tryz.ntmps30
        go_wp2
        go_ret
        exact ⟨rfl, rfl⟩
      · obtain rfl : L = false := by rw [← hL]; simp; omega
        clear hL
        go_enter Tryz.func30, Tryz.ntmps30
        go_wp2
        go_ret
        exact ⟨rfl, rfl⟩
    · obtain rfl : L = false := by rw [← hL]; simp; omega
      clear hL
      go_enter Tryz.func30, Tryz.ntmps30
      go_wp2
      go_ret
      exact ⟨rfl, rfl⟩

theorem aln_of (x : UInt8) : (capB x || lowB x) = true ∧ alnB x = true ∨ (capB x || lowB x) = false ∧ alnB x = true ∧ (48 : Int) ≤ x.toNat ∧ (x.toNat : Int) ≤ 57 ∨ (capB x || lowB x) = false ∧ alnB x = false ∧ ((x.toNat : Int) < 48 ∨ (57 : Int) < x.toNat) := by
  unfold alnB capB lowB numB
  generalize x.toNat = c
  simp
  omega

set_option maxHeartbeats 2000000 in
set_option maxRecDepth 100000 in
theorem simple_any (s : ByteArray) (w : World) (hs : s.size ≤ 140737488355328) :
    Calls Tryz.prog 11 #[.string s] w fun e w' => e = .returned (.bool (simB s)) ∧ w' = w := by
  go_enter Tryz.func11, Tryz.ntmps11
  go_wp2
  go_loopw [3] (fun iv wr => ∃ (i : Nat), iv = .int .i64 i ∧ i ≤ s.size ∧ (∀ j b, j < i → s.data.toList[j]? = some b → alnB b = true) ∧ wr = w) (fun iv _ => match iv with | .int _ i => s.size - i.toNat | _ => 0)
  case atStart => exact ⟨0, rfl, Nat.zero_le _, fun j b h => by omega, rfl⟩
  case round =>
    obtain ⟨i, rfl, his, hno, rfl⟩ := hrel
    have HN := Lib.hid hno
    clear hno
    by_cases hlt : i < s.size
    · have hz : (i : Int) < (s.size : Int) := by omega
      have hat := byte_at s i hlt
      have HA := Lib.hid hat
      clear hat
      have hx256 : ((s[i]'hlt).toNat : Int) < 256 := by have := (s[i]'hlt).toNat_lt; omega
      have HL := Lib.hid (fun w => letter_any (s[i]'hlt) w)
      rcases aln_of (s[i]'hlt) with ⟨h1, h2⟩ | ⟨h1, h2, h3, h4⟩ | ⟨h1, h2, h3⟩
      · rw [h1] at HL
        have H2 := Lib.hid h2
        clear h1 h2
        go_wp2_with (go_at_call 30; (with_reducible refine (HL.out _).mono ?_); rintro e w1 ⟨rfl, rfl⟩; dsimp only)
        go_roundw
        case rel =>
          refine ⟨i + 1, by go_num, by omega, fun j b h1 h2 => ?_, trivial⟩
          by_cases hji : j < i
          · exact HN.out j b hji h2
          · obtain rfl : j = i := by omega
            rw [HA.out] at h2
            obtain rfl := Option.some.inj h2
            exact H2.out
        case measure => show s.size - ((i : Int) + 1).toNat < s.size - (i : Int).toNat; omega
      · rw [h1] at HL
        have H2 := Lib.hid h2
        have h3z : ¬ ((s[i]'hlt).toNat : Int) < 48 := by omega
        have h4z : ¬ (57 : Int) < ((s[i]'hlt).toNat : Int) := by omega
        clear h1 h2 h3 h4
        go_wp2_with (go_at_call 30; (with_reducible refine (HL.out _).mono ?_); rintro e w1 ⟨rfl, rfl⟩; dsimp only)
        go_roundw
        case rel =>
          refine ⟨i + 1, by go_num, by omega, fun j b h1 h2 => ?_, trivial⟩
          by_cases hji : j < i
          · exact HN.out j b hji h2
          · obtain rfl : j = i := by omega
            rw [HA.out] at h2
            obtain rfl := Option.some.inj h2
            exact H2.out
        case measure => show s.size - ((i : Int) + 1).toNat < s.size - (i : Int).toNat; omega
      · rw [h1] at HL
        have hfin : Hid (simB s = false) := by
          refine Lib.hid ?_
          have hno : ¬ s.data.toList.all alnB = true := fun h => by
            have := List.all_eq_true.1 h _ (List.mem_of_getElem? HA.out)
            rw [h2] at this
            cases this
          unfold simB
          rw [Bool.eq_false_iff.2 hno]
          rfl
        clear h1 h2
        by_cases e0 : ((s[i]'hlt).toNat : Int) < 48
        · clear h3
          go_wp2_with (go_at_call 30; (with_reducible refine (HL.out _).mono ?_); rintro e w1 ⟨rfl, rfl⟩; dsimp only)
          go_ret
          exact ⟨ret_bool hfin.out.symm, rfl⟩
        · have e9 : (57 : Int) < ((s[i]'hlt).toNat : Int) := by omega
          clear h3
          go_wp2_with (go_at_call 30; (with_reducible refine (HL.out _).mono ?_); rintro e w1 ⟨rfl, rfl⟩; dsimp only)
          go_ret
          exact ⟨ret_bool hfin.out.symm, rfl⟩
    · have hz : ¬ (i : Int) < (s.size : Int) := by omega
      have hall : s.data.toList.all alnB = true := List.all_eq_true.2 fun b hb => by
        obtain ⟨j, hj⟩ := List.getElem?_of_mem hb
        have := (List.getElem?_eq_some_iff.1 hj).1
        rw [← Lib.size_eq] at this
        exact HN.out j b (by omega) hj
      by_cases h0 : 0 < s.size
      · have h0z : (0 : Int) < (s.size : Int) := by omega
        have hfin : Hid (simB s = true) := Lib.hid (by unfold simB; rw [hall, decide_eq_true h0]; rfl)
        clear hall
        go_wp2
        go_ret
        exact ⟨ret_bool hfin.out.symm, rfl⟩
      · have h0z : ¬ (0 : Int) < (s.size : Int) := by omega
        have hfin : Hid (simB s = false) := Lib.hid (by unfold simB; rw [hall, decide_eq_false h0]; rfl)
        clear hall
        go_wp2
        go_ret
        exact ⟨ret_bool hfin.out.symm, rfl⟩
theorem simB_bare {p : ByteArray} (h : simB p = true) : p.data.toList ≠ [] ∧ ∀ c ∈ p.data.toList, alnB c = true := by
  unfold simB at h
  rw [Bool.and_eq_true] at h
  refine ⟨fun e => ?_, List.all_eq_true.1 h.1⟩
  have := of_decide_eq_true h.2
  rw [Lib.size_eq, e] at this
  exact absurd this (by decide)
theorem aln_asc {c : UInt8} (h : alnB c = true) : c.toNat < 128 ∧ c.toNat ≠ 92 ∧ c.toNat ≠ 45 ∧ c.toNat ≠ 94 := by
  have := byte_all (p := fun c => !(alnB c) || (decide (c.toNat < 128) && !(c.toNat == 92) && !(c.toNat == 45) && !(c.toNat == 94))) (by decide +kernel) c
  rw [h] at this
  simpa [and_assoc] using this
end Go.Proofs.YtackciefmdiphaaGreatDoor

set_option linter.unusedVariables false
namespace Go.Proofs.YtackciefmdiphaaGreatDoor
open Go.RowKit Plain Go.Maps

/-- what stands from a place on -/
def atL (s : ByteArray) (p : Nat) (l : List UInt8) : Prop := s.data.toList.drop p = l
theorem atL_next {s : ByteArray} {p : Nat} {x : UInt8} {r : List UInt8} (h : atL s p (x :: r)) : atL s (p + 1) r := by
  unfold atL at h ⊢
  rw [← List.drop_drop, h]
  rfl
theorem atL_app {s : ByteArray} {p : Nat} : ∀ {l r : List UInt8}, atL s p (l ++ r) → atL s (p + l.length) r := by
  intro l r h
  unfold atL at h ⊢
  rw [← List.drop_drop, h, List.drop_left]
theorem atL_lt {s : ByteArray} {p : Nat} {x : UInt8} {r : List UInt8} (h : atL s p (x :: r)) : p < s.size := by
  unfold atL at h
  have := congrArg List.length h
  rw [List.length_drop, ← Lib.size_eq] at this
  simp at this
  omega
theorem atL_end {s : ByteArray} {p : Nat} (h : atL s p []) : ¬ p < s.size := by
  unfold atL at h
  have := congrArg List.length h
  rw [List.length_drop, ← Lib.size_eq] at this
  simp at this
  omega
theorem atL_dec {s : ByteArray} {p : Nat} {x : UInt8} {r : List UInt8} (h : atL s p (x :: r)) (hx : x.toNat < 128) : rAt s p = x.toNat ∧ kAt s p = 1 := by
  unfold atL at h
  have h1 := Lib.decodeL_drop s p
  rw [h, Lib.decodeL_ascii x r hx] at h1
  unfold rAt kAt
  rw [← h1]
  exact ⟨rfl, rfl⟩
theorem aln_rng {c : UInt8} (h : alnB c = true) : (48 ≤ c.toNat ∧ c.toNat ≤ 57) ∨ (65 ≤ c.toNat ∧ c.toNat ≤ 90) ∨ (97 ≤ c.toNat ∧ c.toNat ≤ 122) := by
  unfold alnB capB lowB numB at h
  simp at h
  omega
/-- signs of a key that stand for themselves -/
def keyC (c : UInt8) : Prop := c.toNat < 128 ∧ c.toNat ≠ 92 ∧ endK c.toNat = false
/-- signs of a value that stand for themselves -/
def valC (c : UInt8) : Prop := c.toNat < 128 ∧ c.toNat ≠ 92 ∧ eolR c.toNat = false
theorem aln_key {c : UInt8} (h : alnB c = true) : keyC c := by
  have := aln_rng h
  refine ⟨by omega, by omega, ?_⟩
  unfold endK
  simp
  omega
theorem aln_val {c : UInt8} (h : alnB c = true) : valC c := by
  have := aln_rng h
  refine ⟨by omega, by omega, ?_⟩
  unfold eolR
  simp
  omega
theorem key_run (s : ByteArray) : ∀ (ks : List UInt8) (p : Nat) (acc : List Nat) (rest : List UInt8), (∀ c ∈ ks, keyC c) → atL s p (ks ++ rest) → keyL s p acc = keyL s (p + ks.length) (acc ++ ks.map (·.toNat)) := by
  intro ks
  induction ks with
  | nil => intro p acc rest h1 h2; simp
  | cons c ks ih =>
    intro p acc rest h1 h2
    obtain ⟨a1, a2, a3⟩ := h1 c List.mem_cons_self
    obtain ⟨d1, d2⟩ := atL_dec h2 a1
    conv => lhs; unfold keyL
    rw [dif_pos (atL_lt h2), d1, if_neg a2, a3, if_neg (by simp), d2]
    rw [ih (p + 1) (acc ++ [c.toNat]) rest (fun x hx => h1 x (List.mem_cons_of_mem _ hx)) (atL_next h2)]
    congr 1
    · simp; omega
    · simp
theorem key_stop (s : ByteArray) (p : Nat) (acc : List Nat) (x : UInt8) (rest : List UInt8) (h : atL s p (x :: rest)) (h1 : x.toNat < 128) (h2 : x.toNat ≠ 92) (h3 : endK x.toNat = true) : keyL s p acc = .ok (acc, p, false) := by
  obtain ⟨d1, d2⟩ := atL_dec h h1
  unfold keyL
  rw [dif_pos (atL_lt h), d1, if_neg h2, if_pos h3]
theorem val_run (s : ByteArray) : ∀ (ks : List UInt8) (p : Nat) (acc : List Nat) (rest : List UInt8), (∀ c ∈ ks, valC c) → atL s p (ks ++ rest) → valL s p acc = valL s (p + ks.length) (acc ++ ks.map (·.toNat)) := by
  intro ks
  induction ks with
  | nil => intro p acc rest h1 h2; simp
  | cons c ks ih =>
    intro p acc rest h1 h2
    obtain ⟨a1, a2, a3⟩ := h1 c List.mem_cons_self
    obtain ⟨d1, d2⟩ := atL_dec h2 a1
    conv => lhs; unfold valL
    rw [dif_pos (atL_lt h2), d1, if_neg a2, a3, if_neg (by simp), d2]
    rw [ih (p + 1) (acc ++ [c.toNat]) rest (fun x hx => h1 x (List.mem_cons_of_mem _ hx)) (atL_next h2)]
    congr 1
    · simp; omega
    · simp
theorem val_stop (s : ByteArray) (p : Nat) (acc : List Nat) (rest : List UInt8) (h : atL s p (10 :: rest)) : valL s p acc = .ok (acc, p + 1, false) := by
  obtain ⟨d1, d2⟩ := atL_dec h (by decide)
  have d1' : rAt s p = 10 := d1
  unfold valL
  rw [dif_pos (atL_lt h), d1', if_neg (by decide), if_pos (by decide), d2]
theorem skip_run (s : ByteArray) : ∀ (bl : List UInt8) (p : Nat) (rest : List UInt8), (∀ c ∈ bl, c.toNat < 128 ∧ wsR c.toNat = true) → atL s p (bl ++ rest) → skipW s p = skipW s (p + bl.length) := by
  intro bl
  induction bl with
  | nil => intro p rest h1 h2; simp
  | cons c bl ih =>
    intro p rest h1 h2
    obtain ⟨a1, a2⟩ := h1 c List.mem_cons_self
    obtain ⟨d1, d2⟩ := atL_dec h2 a1
    conv => lhs; unfold skipW
    rw [dif_pos (atL_lt h2), d1, if_pos a2, d2]
    rw [ih (p + 1) rest (fun x hx => h1 x (List.mem_cons_of_mem _ hx)) (atL_next h2)]
    congr 1
    simp
    omega
theorem skip_stop (s : ByteArray) (p : Nat) (x : UInt8) (rest : List UInt8) (h : atL s p (x :: rest)) (h1 : x.toNat < 128) (h2 : wsR x.toNat = false) : skipW s p = p := by
  obtain ⟨d1, d2⟩ := atL_dec h h1
  unfold skipW
  rw [dif_pos (atL_lt h), d1, if_neg (by rw [h2]; simp)]
/-- a value goes on behind a backslash and a line's end -/
theorem val_more (s : ByteArray) (p : Nat) (acc : List Nat) (bl : List UInt8) (x : UInt8) (rest : List UInt8) (h : atL s p (92 :: 10 :: (bl ++ x :: rest))) (hb : ∀ c ∈ bl, c.toNat < 128 ∧ wsR c.toNat = true) (h1 : x.toNat < 128) (h2 : wsR x.toNat = false) : valL s p acc = valL s (p + 2 + bl.length) acc := by
  obtain ⟨d1, d2⟩ := atL_dec h (by decide)
  have hn := atL_next h
  obtain ⟨e1, e2⟩ := atL_dec hn (by decide)
  have d1' : rAt s p = 92 := d1
  have e1' : rAt s (p + 1) = 10 := e1
  have hnn := atL_next hn
  conv => lhs; unfold valL
  rw [dif_pos (atL_lt h), d1', if_pos rfl]
  rw [dif_pos (by rw [d2]; exact ⟨atL_lt hn, by rw [e1']; decide⟩)]
  rw [d2, e2]
  have hsk := skip_run s bl (p + 1 + 1) (x :: rest) hb hnn
  rw [hsk, skip_stop s _ x rest (atL_app hnn) h1 h2]
/-- between a key and its value -/
theorem bval_at (s : ByteArray) (p : Nat) (b1 cs b2 : List UInt8) (x : UInt8) (rest : List UInt8) (h : atL s p (b1 ++ (cs ++ (b2 ++ x :: rest)))) (h1 : ∀ c ∈ b1, c.toNat < 128 ∧ wsR c.toNat = true) (h2 : ∀ c ∈ b2, c.toNat < 128 ∧ wsR c.toNat = true) (hc : cs = [61] ∨ cs = [58] ∨ (cs = [] ∧ b2 = [])) (hx : alnB x = true ∨ x = 60) : bvalP s p = p + b1.length + cs.length + b2.length := by
  have hx1 : x.toNat < 128 ∧ wsR x.toNat = false ∧ ¬ (x.toNat = 58 ∨ x.toNat = 61) := by
    rcases hx with hx | rfl
    · have := aln_rng hx
      refine ⟨by omega, ?_, by omega⟩
      unfold wsR
      simp
      omega
    · decide
  obtain ⟨x1, x2, x3⟩ := hx1
  have ha := atL_app h
  unfold bvalP
  rw [skip_run s b1 p _ h1 h]
  rcases hc with rfl | rfl | ⟨rfl, rfl⟩
  · rw [skip_stop s _ 61 _ ha (by decide) (by decide)]
    obtain ⟨d1, d2⟩ := atL_dec ha (by decide)
    have d1' : rAt s (p + b1.length) = 61 := d1
    have hn := atL_next ha
    have e : accS s (p + b1.length) = p + b1.length + 1 := by unfold accS; rw [if_pos (atL_lt ha), d1', if_pos (by decide), d2]
    rw [e, skip_run s b2 _ _ h2 hn, skip_stop s _ x rest (atL_app hn) x1 x2]
    rfl
  · rw [skip_stop s _ 58 _ ha (by decide) (by decide)]
    obtain ⟨d1, d2⟩ := atL_dec ha (by decide)
    have d1' : rAt s (p + b1.length) = 58 := d1
    have hn := atL_next ha
    have e : accS s (p + b1.length) = p + b1.length + 1 := by unfold accS; rw [if_pos (atL_lt ha), d1', if_pos (by decide), d2]
    rw [e, skip_run s b2 _ _ h2 hn, skip_stop s _ x rest (atL_app hn) x1 x2]
    rfl
  · have ha' : atL s (p + b1.length) (x :: rest) := ha
    rw [skip_stop s _ x rest ha' x1 x2]
    obtain ⟨d1, d2⟩ := atL_dec ha' x1
    have e : accS s (p + b1.length) = p + b1.length := by unfold accS; rw [if_pos (atL_lt ha'), d1, if_neg x3]
    rw [e, skip_stop s _ x rest ha' x1 x2]
    rfl
/-! steps of the lexer -/
theorem lex_ws (s : ByteArray) (m p : Nat) (x : UInt8) (rest : List UInt8) (h : atL s p (x :: rest)) (hx : x = 32 ∨ x = 10) : lexN s (m + 1) .before p = lexN s m .before (p + 1) := by
  have h1 : x.toNat < 128 := by rcases hx with rfl | rfl <;> decide
  obtain ⟨d1, d2⟩ := atL_dec h h1
  conv => lhs; unfold lexN lexS
  dsimp only
  simp only [if_pos (atL_lt h), d1, d2]
  rcases hx with rfl | rfl
  · simp [eolR, wsR]
  · simp [eolR]
theorem lex_end (s : ByteArray) (m p : Nat) (h : atL s p []) : lexN s (m + 1) .before p = [⟨1, p, emptyB⟩] := by
  conv => lhs; unfold lexN lexS
  dsimp only
  simp only [if_neg (atL_end h)]
  rfl
theorem lex_kv (s : ByteArray) (m p q r t : Nat) (x : UInt8) (rest : List UInt8) (ka va : List Nat) (h : atL s p (x :: rest)) (hx : alnB x = true) (hk : keyL s p [] = .ok (ka, q, false)) (hne : ka ≠ []) (hb : bvalP s q = r) (hv : valL s r [] = .ok (va, t, false)) :
    lexN s (m + 4) .before p = ⟨2, p, textOf ka⟩ :: ⟨3, r, textOf va⟩ :: lexN s m .before t := by
  have hr := aln_rng hx
  obtain ⟨d1, d2⟩ := atL_dec h (by omega)
  have h1 : lexN s (m + 4) .before p = lexN s (m + 3) .key p := by
    conv => lhs; unfold lexN lexS
    dsimp only
    simp only [if_pos (atL_lt h), d1]
    have e1 : eolR x.toNat = false := by unfold eolR; simp; omega
    have e2 : ¬ (x.toNat = 35 ∨ x.toNat = 33) := by omega
    have e3 : wsR x.toNat = false := by unfold wsR; simp; omega
    simp [e1, e2, e3]
  have h2 : lexN s (m + 3) .key p = ⟨2, p, textOf ka⟩ :: lexN s (m + 2) .bval q := by
    conv => lhs; unfold lexN lexS
    simp [hk, hne]
  have h3 : lexN s (m + 2) .bval q = lexN s (m + 1) .val r := by
    conv => lhs; unfold lexN lexS
    simp [hb]
  have h4 : lexN s (m + 1) .val r = ⟨3, r, textOf va⟩ :: lexN s m .before t := by
    conv => lhs; unfold lexN lexS
    simp [hv]
  rw [h1, h2, h3, h4]
theorem enc_asc (b : UInt8) (h : b.toNat < 128) : Lib.encodeRune (b.toNat : Int) = [b] := by
  unfold Lib.encodeRune
  rw [Lib.encodeRuneZ_one (by omega) (by omega)]
  simp
theorem textOf_asc : ∀ (l : List UInt8), (∀ b ∈ l, b.toNat < 128) → textOf (l.map (·.toNat)) = ⟨l.toArray⟩ := by
  intro l h
  unfold textOf
  congr 2
  induction l with
  | nil => rfl
  | cons b l ih =>
    simp only [List.map_cons, List.flatten_cons]
    rw [enc_asc b (h b List.mem_cons_self), ih (fun c hc => h c (List.mem_cons_of_mem _ hc))]
    rfl
end Go.Proofs.YtackciefmdiphaaGreatDoor

set_option linter.unusedVariables false
namespace Go.Proofs.YtackciefmdiphaaGreatDoor
open Go.RowKit Plain Go.Maps

/-- lines 'key=value' -/
def linesT : List (List UInt8 × List UInt8) → List UInt8
  | [] => []
  | kv :: r => kv.1 ++ (61 :: (kv.2 ++ (10 :: linesT r)))
def lineOk (kv : List UInt8 × List UInt8) : Prop := kv.1 ≠ [] ∧ (∀ c ∈ kv.1, alnB c = true) ∧ (∃ x r, kv.2 = x :: r ∧ (alnB x = true ∨ x = 60)) ∧ ∀ c ∈ kv.2, valC c
def baL (l : List UInt8) : ByteArray := ⟨l.toArray⟩
def stKV (st : PSt) (kv : List UInt8 × List UInt8) : PSt := putV (addC (addK st (baL kv.1)) (baL kv.1) []) (baL kv.1) (baL kv.2)
theorem lines_par (s : ByteArray) : ∀ (ls : List (List UInt8 × List UInt8)) (p m : Nat) (st : PSt), (∀ kv ∈ ls, lineOk kv) → atL s p (linesT ls) → parL (lexN s (m + (4 * ls.length + 1)) .before p) [] st = some (ls.foldl stKV st) := by
  intro ls
  induction ls with
  | nil =>
    intro p m st h hp
    have : lexN s (m + (4 * 0 + 1)) .before p = [⟨1, p, emptyB⟩] := lex_end s m p hp
    rw [List.length_nil, this]
    rfl
  | cons kv r ih =>
    intro p m st h hp
    obtain ⟨h1, h2, ⟨x, v', hv, hx⟩, h4⟩ := h kv List.mem_cons_self
    obtain ⟨u, k', hk⟩ := List.exists_cons_of_ne_nil h1
    have hp' : atL s p (kv.1 ++ (61 :: (kv.2 ++ (10 :: linesT r)))) := hp
    have p1 := atL_app hp'
    have p2 := atL_next p1
    have p3 := atL_app p2
    have hkey : keyL s p [] = .ok (kv.1.map (·.toNat), p + kv.1.length, false) := by
      rw [key_run s kv.1 p [] _ (fun c hc => aln_key (h2 c hc)) hp']
      exact key_stop s _ _ 61 _ p1 (by decide) (by decide) (by decide)
    have hbv : bvalP s (p + kv.1.length) = p + kv.1.length + 1 := by
      have := bval_at s (p + kv.1.length) [] [61] [] x (v' ++ (10 :: linesT r)) (by
        have e : 61 :: (kv.2 ++ (10 :: linesT r)) = [] ++ ([61] ++ ([] ++ x :: (v' ++ (10 :: linesT r)))) := by rw [hv]; rfl
        rw [← e]; exact p1) (by simp) (by simp) (.inl rfl) hx
      simpa using this
    have hval : valL s (p + kv.1.length + 1) [] = .ok (kv.2.map (·.toNat), p + kv.1.length + 1 + kv.2.length + 1, false) := by
      rw [val_run s kv.2 _ [] _ h4 p2]
      exact val_stop s _ _ _ p3
    have hlx := lex_kv s (m + (4 * r.length + 1)) p _ _ _ u (k' ++ (61 :: (kv.2 ++ (10 :: linesT r)))) _ _ (by rw [hk] at hp'; exact hp') (h2 u (by rw [hk]; exact List.mem_cons_self)) hkey (by rw [hk]; simp) hbv hval
    rw [show m + (4 * (kv :: r).length + 1) = m + (4 * r.length + 1) + 4 by simp; omega, hlx]
    rw [textOf_asc _ (fun c hc => (aln_key (h2 c hc)).1), textOf_asc _ (fun c hc => (h4 c hc).1)]
    have hst : ∀ rest, parL (⟨2, p, baL kv.1⟩ :: ⟨3, p + kv.1.length + 1, baL kv.2⟩ :: rest) [] st = parL rest [] (stKV st kv) := by
      intro rest
      conv => lhs; unfold parL
      simp
      rfl
    rw [List.foldl_cons]
    exact (hst _).trans (ih _ m (stKV st kv) (fun x hx => h x (List.mem_cons_of_mem _ hx)) (atL_next p3))
theorem lines_len : ∀ (ls : List (List UInt8 × List UInt8)), ls.length ≤ (linesT ls).length := by
  intro ls
  induction ls with
  | nil => exact Nat.le_refl _
  | cons kv r ih => simp [linesT]; omega
theorem lines_all (s : ByteArray) (ls : List (List UInt8 × List UInt8)) (h : ∀ kv ∈ ls, lineOk kv) (hs : s.data.toList = linesT ls) (hne : ls ≠ []) : parL (lexL (unbom s)) [] pst0 = some (ls.foldl stKV pst0) := by
  have hbo : bomB s = false := by
    obtain ⟨kv, r, rfl⟩ := List.exists_cons_of_ne_nil hne
    obtain ⟨h1, h2, _⟩ := h kv List.mem_cons_self
    obtain ⟨u, k', hk⟩ := List.exists_cons_of_ne_nil h1
    have hu := aln_rng (h2 u (by rw [hk]; exact List.mem_cons_self))
    unfold bomB Lib.hasPrefix
    rw [hs]
    show List.isPrefixOf [239, 187, 191] (kv.1 ++ _) = false
    rw [hk]
    simp only [List.cons_append, List.isPrefixOf, Bool.and_eq_false_iff]
    left
    rw [beq_eq_false_iff_ne]
    intro e
    rw [← e] at hu
    simp at hu
  rw [unbom_no hbo]
  have hl := lines_len ls
  rw [← hs, ← Lib.size_eq] at hl
  unfold lexL
  rw [show 4 * s.size + 4 = (4 * s.size + 3 - 4 * ls.length) + (4 * ls.length + 1) by omega]
  exact lines_par s ls 0 _ pst0 h (by unfold atL; rw [List.drop_zero]; exact hs)
theorem baL_inj {a b : List UInt8} (h : baL a = baL b) : a = b := by
  have := congrArg (fun x : ByteArray => x.data.toList) h
  simpa [baL] using this
/-- what the lines leave -/
theorem fold_facts : ∀ (ls : List (List UInt8 × List UInt8)) (st : PSt), IsMap st.D → (∀ kv ∈ ls, Maps.has st.D (keyL8 (baL kv.1)) = false) → (ls.map Prod.fst).Nodup →
    IsMap (ls.foldl stKV st).D ∧ (ls.foldl stKV st).ks = st.ks ++ ls.map (fun kv => baL kv.1) ∧ (∀ x, (∀ kv ∈ ls, baL kv.1 ≠ x) → rawO (ls.foldl stKV st).D x = rawO st.D x) ∧ ∀ kv ∈ ls, rawO (ls.foldl stKV st).D (baL kv.1) = some (baL kv.2) := by
  intro ls
  induction ls with
  | nil => intro st h1 h2 h3; exact ⟨h1, by simp, fun x _ => rfl, fun kv h => by simp at h⟩
  | cons kv r ih =>
    intro st h1 h2 h3
    rw [List.map_cons, List.nodup_cons] at h3
    have e1 : (stKV st kv).D = st.D.put (keyL8 (baL kv.1)) (.lit (.string (baL kv.2).data.toList)) := by
      unfold stKV putV addC addK
      split <;> split <;> rfl
    have e2 : (stKV st kv).ks = st.ks ++ [baL kv.1] := by
      unfold stKV putV addC addK
      rw [if_pos rfl, h2 kv List.mem_cons_self]
      rfl
    have hm : IsMap (stKV st kv).D := by rw [e1]; exact h1.put _ _
    have hro : ∀ x, rawO (stKV st kv).D x = if baL kv.1 = x then some (baL kv.2) else rawO st.D x := fun x => by rw [e1]; exact rawO_put h1 _ _ _
    have hnh : ∀ q ∈ r, Maps.has (stKV st kv).D (keyL8 (baL q.1)) = false := by
      intro q hq
      rw [e1]
      have hne : keyL8 (baL q.1) ≠ keyL8 (baL kv.1) := fun e => h3.1 (by
        have := baL_inj (keyL8_inj e)
        rw [← this]
        exact List.mem_map.2 ⟨q, hq, rfl⟩)
      rw [has_put_other hne]
      exact h2 q (List.mem_cons_of_mem _ hq)
    obtain ⟨i1, i2, i3, i4⟩ := ih (stKV st kv) hm hnh h3.2
    rw [List.foldl_cons]
    refine ⟨i1, ?_, ?_, ?_⟩
    · rw [i2, e2]; simp
    · intro x hx
      rw [i3 x (fun q hq => hx q (List.mem_cons_of_mem _ hq)), hro, if_neg (hx kv List.mem_cons_self)]
    · intro q hq
      rcases List.mem_cons.1 hq with rfl | hq
      · rw [i3 (baL q.1) (fun z hz e => h3.1 (by
          have := baL_inj e
          rw [← this]
          exact List.mem_map.2 ⟨z, hz, rfl⟩)), hro, if_pos rfl]
      · exact i4 q hq
/-! the chain -/
theorem ext_list (s : ByteArray) (a b : Nat) : (s.extract a b).data.toList = (s.data.toList.drop a).take (b - a) := by
  rw [ByteArray.data_extract, Array.toList_extract]
theorem ba_ext {a b : ByteArray} (h : a.data.toList = b.data.toList) : a = b := ByteArray.ext (Array.toList_inj.1 h)
theorem zixN_none (s : ByteArray) (h : ∀ c ∈ s.data.toList, c ≠ 36) : ∀ (f i : Nat), zixN s dlB f i = none := by
  intro f
  induction f with
  | zero => intro i; rfl
  | succ f ih =>
    intro i
    unfold zixN
    split
    · rename_i hi
      have hb : ¬ ((s.extract i (i + dlB.size)).toList == dlB.toList) = true := by
        intro e
        have e1 := eq_of_beq e
        rw [ByteArray.toList_eq, ByteArray.toList_eq, ext_list] at e1
        have : (36 : UInt8) ∈ (s.data.toList.drop i).take (i + dlB.size - i) := by rw [e1]; decide
        exact h 36 (List.mem_of_mem_drop (List.mem_of_mem_take this)) rfl
      rw [if_neg hb]
      exact ih _
    · rfl
theorem zix_none {s : ByteArray} (h : ∀ c ∈ s.data.toList, c ≠ 36) : zix s dlB = none := zixN_none s h _ _
theorem zixN_br (s : ByteArray) (key r : List UInt8) (hs : s.data.toList = key ++ 125 :: r) (hk : ∀ c ∈ key, c ≠ 125) : ∀ (f i : Nat), i ≤ key.length → key.length < f + i → zixN s brB f i = some key.length := by
  have hsz : s.size = key.length + (r.length + 1) := by rw [Lib.size_eq, hs]; simp
  intro f
  induction f with
  | zero => intro i h1 h2; omega
  | succ f ih =>
    intro i h1 h2
    unfold zixN
    have hb1 : brB.size = 1 := rfl
    rw [hb1, if_pos (by omega)]
    by_cases hi : i = key.length
    · subst hi
      have hb : ((s.extract key.length (key.length + 1)).toList == brB.toList) = true := by
        rw [ByteArray.toList_eq, ByteArray.toList_eq, ext_list, hs, List.drop_left, show key.length + 1 - key.length = 1 by omega]
        rfl
      rw [if_pos hb]
    · have hb : ¬ ((s.extract i (i + 1)).toList == brB.toList) = true := by
        intro e
        have e1 := eq_of_beq e
        rw [ByteArray.toList_eq, ByteArray.toList_eq, ext_list, hs, show i + 1 - i = 1 by omega, List.drop_append_of_le_length (by omega)] at e1
        obtain ⟨c, r', hc⟩ : ∃ c r', key.drop i = c :: r' := by
          cases hd : key.drop i with
          | nil => have := congrArg List.length hd; rw [List.length_drop] at this; simp at this; omega
          | cons c r' => exact ⟨c, r', rfl⟩
        rw [hc] at e1
        have e2 : c = 125 := by
          have : [c] = [125] := e1
          injection this
        exact hk c (List.mem_of_mem_drop (by rw [hc]; exact List.mem_cons_self)) e2
      rw [if_neg hb]
      exact ih _ (by omega) (by omega)
theorem zix_br {s : ByteArray} {key r : List UInt8} (hs : s.data.toList = key ++ 125 :: r) (hk : ∀ c ∈ key, c ≠ 125) : zix s brB = some key.length := by
  have hsz : s.size = key.length + (r.length + 1) := by rw [Lib.size_eq, hs]; simp
  exact zixN_br s key r hs hk _ 0 (Nat.zero_le _) (by omega)
theorem zix_ref {s : ByteArray} {r : List UInt8} (hs : s.data.toList = 60 :: 36 :: 123 :: r) : zix s dlB = some 1 := by
  have hsz : s.size = r.length + 3 := by rw [Lib.size_eq, hs]; simp
  unfold zix
  rw [show s.size + 2 = (s.size) + 1 + 1 by omega]
  unfold zixN
  have hb2 : dlB.size = 2 := rfl
  rw [hb2, if_pos (by omega)]
  have hb : ¬ ((s.extract 0 (0 + 2)).toList == dlB.toList) = true := by
    rw [ByteArray.toList_eq, ByteArray.toList_eq, ext_list, hs]
    simp [dlB]
  rw [if_neg hb]
  unfold zixN
  rw [hb2, if_pos (by omega)]
  have hc : ((s.extract (0 + 1) (0 + 1 + 2)).toList == dlB.toList) = true := by
    rw [ByteArray.toList_eq, ByteArray.toList_eq, ext_list, hs]
    rfl
  rw [if_pos hc]
def refB (k : List UInt8) : ByteArray := baL (60 :: 36 :: 123 :: (k ++ [125, 62]))
def wrapB (m : Nat) (v : List UInt8) : ByteArray := baL (List.replicate m 60 ++ (v ++ List.replicate m 62))
theorem baL_list (l : List UInt8) : (baL l).data.toList = l := by simp [baL]
theorem wrap_succ (m : Nat) (v : List UInt8) : wrapB (m + 1) v = baL [60] ++ wrapB m v ++ baL [62] := by
  apply ba_ext
  rw [ByteArray.data_append, ByteArray.data_append, Array.toList_append, Array.toList_append]
  unfold wrapB
  rw [baL_list, baL_list, baL_list, baL_list, List.replicate_succ, List.replicate_succ']
  simp
theorem memK_no {key : ByteArray} {keys : List ByteArray} (h : key ∉ keys) : memK key keys = false := by
  unfold memK
  rw [List.any_eq_false]
  intro x hx e
  have e1 := eq_of_beq e
  rw [ByteArray.toList_eq, ByteArray.toList_eq] at e1
  exact h (ba_ext e1 ▸ hx)
/-- a chain of references, from its head on -/
inductive Chn (D : ByteArray → ByteArray) (v : List UInt8) : Nat → ByteArray → List (List UInt8) → Prop
  | last (s : ByteArray) : s = baL v → Chn D v 0 s []
  | more (m : Nat) (s : ByteArray) (k : List UInt8) (r : List (List UInt8)) : s = refB k → (∀ c ∈ k, c ≠ 125) → Chn D v m (D (baL k)) r → Chn D v (m + 1) s (k :: r)
theorem chain_exp (D : ByteArray → ByteArray) (v : List UInt8) (hv : ∀ c ∈ v, c ≠ 36) (hvs : v.length ≤ 1000) : ∀ (m : Nat) (s : ByteArray) (r : List (List UInt8)), Chn D v m s r → m ≤ 40 → (∀ k ∈ r, k.length ≤ 1000) → r.Nodup → ∀ (keys : List ByteArray), (∀ k ∈ r, baL k ∉ keys) → keys.length + m ≤ 60 → ∃ f, ∀ g, f ≤ g → expF D g keys s = some (some (wrapB m v)) := by
  intro m s r h
  induction h with
  | last s hs =>
    intro _ _ _ keys _ hl
    subst hs
    refine ⟨1, fun g hg => ?_⟩
    obtain ⟨g, rfl⟩ : ∃ g', g = g' + 1 := ⟨g - 1, by omega⟩
    unfold expF
    have hz : (baL v).size ≤ 1152921504606846976 := by rw [Lib.size_eq, baL_list]; omega
    rw [if_pos hz, if_neg (by omega), zix_none (by rw [baL_list]; exact hv)]
    simp [wrapB]
  | more m s k r hs hk hc ih =>
    intro hm hkl hnd keys hno hl
    rw [List.nodup_cons] at hnd
    obtain ⟨f, hf⟩ := ih (by omega) (fun x hx => hkl x (List.mem_cons_of_mem _ hx)) hnd.2 (keys ++ [baL k]) (fun x hx e => by
      rcases List.mem_append.1 e with h | h
      · exact hno x (List.mem_cons_of_mem _ hx) h
      · simp at h
        have := baL_inj h
        subst this
        exact hnd.1 hx) (by simp; omega)
    refine ⟨f + 2, fun g hg => ?_⟩
    obtain ⟨g, rfl⟩ : ∃ g', g = g' + 1 := ⟨g - 1, by omega⟩
    subst hs
    have hkk := hkl k List.mem_cons_self
    have hsl : (refB k).data.toList = 60 :: 36 :: 123 :: (k ++ [125, 62]) := by unfold refB; rw [baL_list]
    have hsz : (refB k).size = k.length + 5 := by rw [Lib.size_eq, hsl]; simp
    have h3 : ((refB k).extract (1 + 2) (refB k).size).data.toList = k ++ 125 :: [62] := by
      rw [ext_list, hsl, hsz]
      show List.take _ (k ++ [125, 62]) = _
      rw [List.take_of_length_le (by simp)]
    have hkey : (refB k).extract (1 + 2) (1 + 2 + k.length) = baL k := by
      apply ba_ext
      rw [ext_list, hsl, baL_list, show 1 + 2 + k.length - (1 + 2) = k.length by omega]
      show List.take k.length (k ++ [125, 62]) = k
      rw [List.take_left]
    have hrest : (refB k).extract (1 + 2 + k.length + 1) (refB k).size = baL [62] := by
      apply ba_ext
      rw [ext_list, hsl, baL_list, hsz, show k.length + 5 - (1 + 2 + k.length + 1) = 1 by omega, show 1 + 2 + k.length + 1 = 3 + (k.length + 1) by omega, ← List.drop_drop]
      show List.take 1 (List.drop (k.length + 1) (k ++ [125, 62])) = _
      rw [← List.drop_drop, List.drop_left]
      rfl
    have hpre : (refB k).extract 0 1 = baL [60] := by
      apply ba_ext
      rw [ext_list, hsl, baL_list]
      rfl
    unfold expF
    rw [if_pos (by rw [hsz]; omega), if_neg (by omega), zix_ref hsl]
    dsimp only
    rw [zix_br h3 hk]
    dsimp only
    rw [hkey, memK_no (hno k List.mem_cons_self), if_neg (by simp), hf g (by omega)]
    dsimp only
    rw [hpre, hrest, ← wrap_succ]
    obtain ⟨g, rfl⟩ : ∃ g', g = g' + 1 := ⟨g - 1, by omega⟩
    have hwl : (wrapB (m + 1) v).data.toList = List.replicate (m + 1) 60 ++ (v ++ List.replicate (m + 1) 62) := by unfold wrapB; rw [baL_list]
    have hws : (wrapB (m + 1) v).size ≤ 1152921504606846976 := by rw [Lib.size_eq, hwl]; simp; omega
    unfold expF
    rw [if_pos hws, if_neg (by omega), zix_none (by
      rw [hwl]
      intro c hc
      rcases List.mem_append.1 hc with h | h
      · rw [List.eq_of_mem_replicate h]; decide
      · rcases List.mem_append.1 h with h | h
        · exact hv c h
        · rw [List.eq_of_mem_replicate h]; decide)]
end Go.Proofs.YtackciefmdiphaaGreatDoor

set_option linter.unusedVariables false
namespace Go.Proofs.YtackciefmdiphaaGreatDoor
open Go.RowKit Plain Go.Maps

def refL (k : List UInt8) : List UInt8 := 60 :: 36 :: 123 :: (k ++ [125, 62])
def linesOf : List (List UInt8) → List UInt8 → List (List UInt8 × List UInt8)
  | [], _ => []
  | [k], v => [(k, v)]
  | k :: k2 :: r, v => (k, refL k2) :: linesOf (k2 :: r) v
theorem linesOf_len : ∀ (ks : List (List UInt8)) (v : List UInt8), (linesOf ks v).length = ks.length
  | [], _ => rfl
  | [k], _ => rfl
  | k :: k2 :: r, v => by
    show (linesOf (k2 :: r) v).length + 1 = _
    rw [linesOf_len (k2 :: r) v]
    rfl
theorem linesOf_fst : ∀ (ks : List (List UInt8)) (v : List UInt8), (linesOf ks v).map Prod.fst = ks
  | [], _ => rfl
  | [k], _ => rfl
  | k :: k2 :: r, v => by
    show k :: (linesOf (k2 :: r) v).map Prod.fst = _
    rw [linesOf_fst (k2 :: r) v]
theorem linesOf_at (v : List UInt8) : ∀ (ks : List (List UInt8)) (i : Nat) (k : List UInt8), ks[i]? = some k → (linesOf ks v)[i]? = some (k, match ks[i + 1]? with | some k2 => refL k2 | none => v)
  | [], i, k, h => by simp at h
  | [a], i, k, h => by
    match i, h with
    | 0, h => simp at h; subst h; rfl
    | i + 1, h => simp at h
  | a :: b :: r, i, k, h => by
    match i, h with
    | 0, h => simp at h; subst h; rfl
    | i + 1, h => exact linesOf_at v (b :: r) i k (by simpa using h)
theorem linesT_app : ∀ (l r : List (List UInt8 × List UInt8)), linesT (l ++ r) = linesT l ++ linesT r
  | [], r => rfl
  | kv :: l, r => by
    show kv.1 ++ (61 :: (kv.2 ++ (10 :: linesT (l ++ r)))) = (kv.1 ++ (61 :: (kv.2 ++ (10 :: linesT l)))) ++ linesT r
    rw [linesT_app l r]
    simp
theorem linesT_snoc (l : List (List UInt8 × List UInt8)) (kv : List UInt8 × List UInt8) : linesT (l ++ [kv]) = linesT l ++ (kv.1 ++ [61]) ++ (kv.2 ++ [10]) := by
  rw [linesT_app]
  show _ ++ (kv.1 ++ (61 :: (kv.2 ++ [10]))) = _
  simp
theorem linesT_bd (B : Nat) : ∀ (l : List (List UInt8 × List UInt8)), (∀ kv ∈ l, kv.1.length ≤ B ∧ kv.2.length ≤ B + 5) → (linesT l).length ≤ l.length * (2 * B + 7) := by
  intro l
  induction l with
  | nil => intro _; simp [linesT]
  | cons kv l ih =>
    intro h
    have h1 := h kv List.mem_cons_self
    have h2 := ih (fun x hx => h x (List.mem_cons_of_mem _ hx))
    show (kv.1 ++ (61 :: (kv.2 ++ (10 :: linesT l)))).length ≤ _
    rw [List.length_cons, Nat.succ_mul]
    simp only [List.length_append, List.length_cons]
    omega
/-- what each key comes to -/
def ekF (v : List UInt8) : List (List UInt8) → ByteArray → Option ByteArray
  | [], _ => none
  | k :: r, x => if x = baL k then some (wrapB r.length v) else ekF v r x
theorem ekF_at (v : List UInt8) : ∀ (ks : List (List UInt8)) (i : Nat) (k : List UInt8), ks.Nodup → ks[i]? = some k → ekF v ks (baL k) = some (wrapB (ks.length - 1 - i) v) := by
  intro ks
  induction ks with
  | nil => intro i k _ h; simp at h
  | cons a r ih =>
    intro i k hn h
    rw [List.nodup_cons] at hn
    match i, h with
    | 0, h =>
      simp at h
      subst h
      unfold ekF
      rw [if_pos rfl]
      simp
    | i + 1, h =>
      have h' : r[i]? = some k := by simpa using h
      unfold ekF
      rw [if_neg (fun e => hn.1 (by rw [← baL_inj e]; exact List.mem_of_getElem? h')), ih i k hn.2 h']
      congr 2
      simp
      omega
theorem chn_of (D : ByteArray → ByteArray) (v : List UInt8) : ∀ (r : List (List UInt8)) (k : List UInt8), (∀ kv ∈ linesOf (k :: r) v, D (baL kv.1) = baL kv.2) → (∀ x ∈ r, ∀ c ∈ x, c ≠ 125) → Chn D v r.length (D (baL k)) r := by
  intro r
  induction r with
  | nil =>
    intro k h _
    exact Chn.last _ (h (k, v) (by simp [linesOf]))
  | cons k2 r ih =>
    intro k h h2
    have h1 := h (k, refL k2) (by show _ ∈ (k, refL k2) :: _; exact List.mem_cons_self)
    refine Chn.more r.length _ k2 r ?_ (h2 k2 List.mem_cons_self) (ih k2 (fun kv hkv => h kv (by show _ ∈ (k, refL k2) :: _; exact List.mem_cons_of_mem _ hkv)) (fun x hx => h2 x (List.mem_cons_of_mem _ hx)))
    rw [h1]
    rfl
structure KeysOk (ks : List (List UInt8)) (v : List UInt8) : Prop where
  ne : ks ≠ []
  nd : ks.Nodup
  kal : ∀ k ∈ ks, k ≠ [] ∧ ∀ c ∈ k, alnB c = true
  val : v ≠ [] ∧ ∀ c ∈ v, alnB c = true
  kl : ∀ k ∈ ks, k.length ≤ 1000
  vl : v.length ≤ 1000
  n30 : ks.length ≤ 30
theorem aln_ne {c : UInt8} (h : alnB c = true) : c ≠ 36 ∧ c ≠ 125 := by
  have := aln_rng h
  constructor <;> (intro e; rw [e] at this; simp at this)
theorem lines_ok {ks : List (List UInt8)} {v : List UInt8} (h : KeysOk ks v) : ∀ kv ∈ linesOf ks v, lineOk kv := by
  intro kv hkv
  obtain ⟨i, hi⟩ := List.getElem?_of_mem hkv
  have hil : i < ks.length := by
    have := (List.getElem?_eq_some_iff.1 hi).1
    rwa [linesOf_len] at this
  obtain ⟨k, hk⟩ : ∃ k, ks[i]? = some k := ⟨_, List.getElem?_eq_getElem hil⟩
  rw [linesOf_at v ks i k hk] at hi
  have hkm := h.kal k (List.mem_of_getElem? hk)
  cases h2 : ks[i + 1]? with
  | none =>
    rw [h2] at hi
    injection hi with hi
    subst hi
    obtain ⟨x, r, hv⟩ := List.exists_cons_of_ne_nil h.val.1
    exact ⟨hkm.1, hkm.2, ⟨x, r, hv, .inl (h.val.2 x (by rw [hv]; exact List.mem_cons_self))⟩, fun c hc => aln_val (h.val.2 c hc)⟩
  | some k2 =>
    rw [h2] at hi
    injection hi with hi
    subst hi
    have hk2 := h.kal k2 (List.mem_of_getElem? h2)
    refine ⟨hkm.1, hkm.2, ⟨60, _, rfl, .inr rfl⟩, fun c hc => ?_⟩
    have hc' : c ∈ 60 :: 36 :: 123 :: (k2 ++ [125, 62]) := hc
    simp only [List.mem_cons, List.mem_append, List.not_mem_nil, or_false] at hc'
    rcases hc' with rfl | rfl | rfl | h1 | rfl | rfl
    · exact ⟨by decide, by decide, by decide⟩
    · exact ⟨by decide, by decide, by decide⟩
    · exact ⟨by decide, by decide, by decide⟩
    · exact aln_val (hk2.2 c h1)
    · exact ⟨by decide, by decide, by decide⟩
    · exact ⟨by decide, by decide, by decide⟩
theorem exp_law (s : ByteArray) (ks : List (List UInt8)) (v : List UInt8) (h : KeysOk ks v) (hs : s.data.toList = linesT (linesOf ks v)) :
    ∃ p, parL (lexL (unbom s)) [] pst0 = some p ∧ p.ks = ks.map baL ∧ ExpAll p.D (ekF v ks) ∧ ∀ x, Maps.has p.D (keyL8 x) = true → (ekF v ks x).isSome = true := by
  have hne : linesOf ks v ≠ [] := fun e => h.ne (List.eq_nil_of_length_eq_zero (by rw [← linesOf_len ks v, e]; rfl))
  obtain ⟨i1, i2, i3, i4⟩ := fold_facts (linesOf ks v) pst0 isMap_empty (fun kv _ => rfl) (by rw [linesOf_fst]; exact h.nd)
  refine ⟨_, lines_all s _ (lines_ok h) hs hne, ?_, ?_⟩
  · rw [i2]
    show [] ++ _ = _
    rw [List.nil_append]
    conv => rhs; rw [← linesOf_fst ks v]
    rw [List.map_map]
    rfl
  · obtain ⟨p, hp⟩ : ∃ p, (linesOf ks v).foldl stKV pst0 = p := ⟨_, rfl⟩
    rw [hp] at i1 i3 i4 ⊢
    have hraw : ∀ kv ∈ linesOf ks v, rawOf p.D (baL kv.1) = baL kv.2 := fun kv hkv => by
      have := i4 kv hkv
      unfold rawO at this
      split at this
      · injection this
      · cases this
    suffices hall : ∀ x, Maps.has p.D (keyL8 x) = true → (∃ f, expF (rawOf p.D) f [x] (rawOf p.D x) = some (ekF v ks x)) ∧ (ekF v ks x).isSome = true from ⟨fun x hx => (hall x hx).1, fun x hx => (hall x hx).2⟩
    intro x hx
    obtain ⟨k, hkm, rfl⟩ : ∃ k ∈ ks, baL k = x := by
      by_cases hh : ∀ kv ∈ linesOf ks v, baL kv.1 ≠ x
      · have := i3 x hh
        unfold rawO at this
        rw [if_pos hx] at this
        cases this
      · have : ∃ kv ∈ linesOf ks v, baL kv.1 = x := by
          by_cases h9 : ∃ kv ∈ linesOf ks v, baL kv.1 = x
          · exact h9
          · exact absurd (fun kv hkv e => h9 ⟨kv, hkv, e⟩) hh
        obtain ⟨kv, hkv, e⟩ := this
        refine ⟨kv.1, ?_, e⟩
        rw [← linesOf_fst ks v]
        exact List.mem_map.2 ⟨kv, hkv, rfl⟩
    obtain ⟨pre, r, hpr⟩ := List.append_of_mem hkm
    have hnd := h.nd
    rw [hpr] at hnd
    have hnr : (k :: r).Nodup := (List.nodup_append.1 hnd).2.1
    have hsub : ∀ kv ∈ linesOf (k :: r) v, kv ∈ linesOf ks v := fun kv hkv => by
      obtain ⟨j, hj⟩ := List.getElem?_of_mem hkv
      have hjl : j < (k :: r).length := by
        have := (List.getElem?_eq_some_iff.1 hj).1
        rwa [linesOf_len] at this
      obtain ⟨q, hq⟩ : ∃ q, (k :: r)[j]? = some q := ⟨_, List.getElem?_eq_getElem hjl⟩
      rw [linesOf_at v _ j q hq] at hj
      have hq2 : ks[pre.length + j]? = some q := by rw [hpr, List.getElem?_append_right (by omega), show pre.length + j - pre.length = j by omega]; exact hq
      have hq3 : ks[pre.length + j + 1]? = (k :: r)[j + 1]? := by rw [hpr, List.getElem?_append_right (by omega), show pre.length + j + 1 - pre.length = j + 1 by omega]
      have := linesOf_at v ks _ q hq2
      rw [hq3, hj] at this
      exact List.mem_of_getElem? this
    have hrm : ∀ z ∈ r, z ∈ ks := fun z hz => by rw [hpr]; simp [hz]
    have hch := chn_of (rawOf p.D) v r k (fun kv hkv => hraw kv (hsub kv hkv)) (fun z hz c hc => (aln_ne ((h.kal z (hrm z hz)).2 c hc)).2)
    rw [List.nodup_cons] at hnr
    have hrl : r.length ≤ 29 := by have := h.n30; rw [hpr] at this; simp at this; omega
    obtain ⟨f, hf⟩ := chain_exp (rawOf p.D) v (fun c hc => (aln_ne (h.val.2 c hc)).1) h.vl r.length _ r hch (by omega) (fun z hz => h.kl z (hrm z hz)) hnr.2 [baL k] (fun z hz e => by
      simp at e
      have := baL_inj e
      subst this
      exact hnr.1 hz) (by simp; omega)
    have := ekF_at v ks pre.length k h.nd (by rw [hpr, List.getElem?_append_right (Nat.le_refl _), Nat.sub_self]; rfl)
    refine ⟨⟨f, ?_⟩, by rw [this]; rfl⟩
    rw [hf f (Nat.le_refl _)]
    rw [this, hpr]
    congr 3
    simp
end Go.Proofs.YtackciefmdiphaaGreatDoor
