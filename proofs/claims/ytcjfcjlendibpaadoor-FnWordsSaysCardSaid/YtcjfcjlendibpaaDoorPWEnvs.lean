/- shellwords.isEnv, ParseWithEnvs; impl.WordsEnvs. -/
import Derived.Test.YtcjfcjlendibpaaDoorPWords
import Derived.Lib.IndexLaws
import Derived.Deep.LoopGhost
import Derived.Test.YtcjfcjlendibpaaDoorPMem
set_option linter.unusedVariables false
namespace Go.Proofs.YtcjfcjlendibpaaDoor
open Go.RowKit Plain

/-- may a byte stand at place j of a name? -/
def eName (j c : Nat) : Bool := c == 95 || (decide (97 ≤ c) && decide (c ≤ 122)) || (decide (65 ≤ c) && decide (c ≤ 90)) || (decide (0 < j) && decide (48 ≤ c) && decide (c ≤ 57))
/-- from place j on, 'd' places -/
def eFrom (l : List UInt8) : Nat → Nat → Bool
  | _, 0 => true
  | j, d + 1 => eName j (l.getD j 0).toNat && eFrom l (j + 1) d
def isEnvB (l : List UInt8) : Bool := decide (0 < Lib.indexByte l 61) && eFrom l 0 (Lib.indexByte l 61).toNat
set_option maxHeartbeats 2000000 in
set_option maxRecDepth 100000 in
theorem isEnv_any (s : ByteArray) (w : World) (b : Bool) (hb : isEnvB s.data.toList = b) (hs : s.size ≤ 4611686018427387904) :
    Calls Tryd.prog 42 #[.string s] w fun e w' => e = .returned (.bool b) ∧ w = w' := by
  have HI := Lib.hid (fun w => Tryd.strings_IndexByte s 61 w)
  unfold isEnvB at hb
  have hge := Lib.indexByte_ge s.data.toList 61
  have h61 : (61 : Int).toNat.toUInt8 = 61 := by decide
  rw [h61] at HI
  obtain ⟨I, hI⟩ : ∃ I, Lib.indexByte s.data.toList 61 = I := ⟨_, rfl⟩
  rw [hI] at HI hge hb
  by_cases h0 : I ≤ 0
  · obtain rfl : b = false := by rw [← hb]; simp; omega
    clear hb hI
    go_enter Tryd.func42, Tryd.ntmps42
    go_wp2_with (go_at_call 51; (with_reducible refine (HI.out _).mono ?_); rintro e w1 ⟨rfl, rfl⟩; dsimp only)
    go_wp2
    go_ret
    exact ⟨rfl, rfl⟩
  · obtain ⟨N, rfl⟩ : ∃ N : Nat, I = (N : Int) := ⟨I.toNat, by omega⟩
    have hN : N < s.size := by
      have := (Lib.indexByte_some hI).1
      rw [Lib.size_eq]
      exact (List.getElem?_eq_some_iff.1 this).1
    have HB := Lib.hid (show eFrom s.data.toList 0 N = b by rw [← hb]; simp; omega)
    have h0z : ¬ (N : Int) ≤ 0 := h0
    clear hb hI hge h0
    go_enter Tryd.func42, Tryd.ntmps42
    go_wp2_with (go_at_call 51; (with_reducible refine (HI.out _).mono ?_); rintro e w1 ⟨rfl, rfl⟩; dsimp only)
    go_loopg [4] N (fun c jv wr => ∃ j : Nat, jv = .int .i64 j ∧ j ≤ N ∧ c = N - j ∧ w1 = wr ∧ Hid (eFrom s.data.toList j (N - j) = b))
    case atStart => exact ⟨0, rfl, Nat.zero_le _, rfl, rfl, HB⟩
    case round =>
      obtain ⟨j, rfl, hj, hc, rfl, HJ⟩ := hrel
      have HC := Lib.hid hc
      clear hc HB
      by_cases hjn : j < N
      · have hjs : j < s.size := by omega
        have hjz : (j : Int) < (N : Int) := by omega
        obtain ⟨y, hy⟩ : ∃ y, (s[j]'hjs).toNat = y := ⟨_, rfl⟩
        have hstep := HJ.out
        rw [show N - j = (N - (j + 1)) + 1 by omega, eFrom] at hstep
        have hg : (s.data.toList.getD j 0).toNat = y := by
          rw [← hy]
          have : j < s.data.toList.length := by rw [← Lib.size_eq]; exact hjs
          rw [List.getD_eq_getElem?_getD, List.getElem?_eq_getElem this]
          rfl
        rw [hg] at hstep
        have HS := Lib.hid hstep
        have hy255 : y ≤ 255 := by rw [← hy]; have := (s[j]'hjs).toNat_lt; omega
        clear hstep hg
        have hcs : (y = 95 ∨ ((97 : Int) ≤ (y : Int) ∧ (y : Int) ≤ 122) ∨ ((65 : Int) ≤ (y : Int) ∧ (y : Int) ≤ 90) ∨ (0 < j ∧ (48 : Int) ≤ (y : Int) ∧ (y : Int) ≤ 57)) ∨ (j = 0 ∧ (48 : Int) ≤ (y : Int) ∧ (y : Int) ≤ 57) ∨ ((y : Int) < 48) ∨ ((57 : Int) < (y : Int) ∧ (y : Int) < 65) ∨ ((90 : Int) < (y : Int) ∧ (y : Int) < 95) ∨ y = 96 ∨ (122 : Int) < (y : Int) := by omega
        rcases hcs with hok | hno
        · have HN : Hid (eFrom s.data.toList (j + 1) (N - (j + 1)) = b) := Lib.hid (by
            have h := HS.out
            have he : eName j y = true := by
              unfold eName
              rcases hok with h | h | h | h <;> simp <;> omega
            rw [he, Bool.true_and] at h
            exact h)
          clear HS HJ
          rcases hok with rfl | ⟨h1, h2⟩ | ⟨h1, h2⟩ | ⟨h0j, h1, h2⟩
          · have e95 : (((95 : Nat) : Int) == 95) = true := rfl
            go_wp2
            go_roundg (N - (j + 1))
            case measure => have := HC.out; omega
            case rel => exact ⟨j + 1, by go_num, by omega, rfl, rfl, HN⟩
          · skip
            have e95 : ((y : Int) == 95) = false := by rw [beq_eq_false_iff_ne]; omega
            go_wp2
            go_roundg (N - (j + 1))
            case measure => have := HC.out; omega
            case rel => exact ⟨j + 1, by go_num, by omega, rfl, rfl, HN⟩
          · skip
            have e95 : ((y : Int) == 95) = false := by rw [beq_eq_false_iff_ne]; omega
            go_wp2
            go_roundg (N - (j + 1))
            case measure => have := HC.out; omega
            case rel => exact ⟨j + 1, by go_num, by omega, rfl, rfl, HN⟩
          · have h0z2 : (0 : Int) < (j : Int) := by omega
            have e95 : ((y : Int) == 95) = false := by rw [beq_eq_false_iff_ne]; omega
            go_wp2
            go_roundg (N - (j + 1))
            case measure => have := HC.out; omega
            case rel => exact ⟨j + 1, by go_num, by omega, rfl, rfl, HN⟩
        · obtain rfl : b = false := by
            have h := HS.out
            have he : eName j y = false := by
              unfold eName
              rcases hno with h | h | h | h | h | h <;> simp <;> omega
            rw [he, Bool.false_and] at h
            exact h.symm
          have e95 : ((y : Int) == 95) = false := by rw [beq_eq_false_iff_ne]; omega
          clear HS HJ
          rcases hno with ⟨hj0, h⟩ | h | h | h | h | h
          · have hj9 : ¬ (0 : Int) < (j : Int) := by omega
            clear hj0
            have q1 : decide ((97 : Int) ≤ (y : Int)) = false := by simp; omega
            have q2 : decide ((y : Int) ≤ 122) = true := by simp; omega
            have q3 : decide ((65 : Int) ≤ (y : Int)) = false := by simp; omega
            have q4 : decide ((y : Int) ≤ 90) = true := by simp; omega
            have q5 : decide ((48 : Int) ≤ (y : Int)) = true := by simp; omega
            have q6 : decide ((y : Int) ≤ 57) = true := by simp; omega
            clear h
            go_wp2
            all_goals
              go_ret
              exact ⟨rfl, rfl⟩
          · skip
            have q1 : decide ((97 : Int) ≤ (y : Int)) = false := by simp; omega
            have q2 : decide ((y : Int) ≤ 122) = true := by simp; omega
            have q3 : decide ((65 : Int) ≤ (y : Int)) = false := by simp; omega
            have q4 : decide ((y : Int) ≤ 90) = true := by simp; omega
            have q5 : decide ((48 : Int) ≤ (y : Int)) = false := by simp; omega
            have q6 : decide ((y : Int) ≤ 57) = true := by simp; omega
            clear h
            go_wp2
            all_goals
              go_ret
              exact ⟨rfl, rfl⟩
          · skip
            have q1 : decide ((97 : Int) ≤ (y : Int)) = false := by simp; omega
            have q2 : decide ((y : Int) ≤ 122) = true := by simp; omega
            have q3 : decide ((65 : Int) ≤ (y : Int)) = false := by simp; omega
            have q4 : decide ((y : Int) ≤ 90) = true := by simp; omega
            have q5 : decide ((48 : Int) ≤ (y : Int)) = true := by simp; omega
            have q6 : decide ((y : Int) ≤ 57) = false := by simp; omega
            clear h
            go_wp2
            all_goals
              go_ret
              exact ⟨rfl, rfl⟩
          · skip
            have q1 : decide ((97 : Int) ≤ (y : Int)) = false := by simp; omega
            have q2 : decide ((y : Int) ≤ 122) = true := by simp; omega
            have q3 : decide ((65 : Int) ≤ (y : Int)) = true := by simp; omega
            have q4 : decide ((y : Int) ≤ 90) = false := by simp; omega
            have q5 : decide ((48 : Int) ≤ (y : Int)) = true := by simp; omega
            have q6 : decide ((y : Int) ≤ 57) = false := by simp; omega
            clear h
            go_wp2
            all_goals
              go_ret
              exact ⟨rfl, rfl⟩
          · skip
            have q1 : decide ((97 : Int) ≤ (y : Int)) = false := by simp; omega
            have q2 : decide ((y : Int) ≤ 122) = true := by simp; omega
            have q3 : decide ((65 : Int) ≤ (y : Int)) = true := by simp; omega
            have q4 : decide ((y : Int) ≤ 90) = false := by simp; omega
            have q5 : decide ((48 : Int) ≤ (y : Int)) = true := by simp; omega
            have q6 : decide ((y : Int) ≤ 57) = false := by simp; omega
            clear h
            go_wp2
            all_goals
              go_ret
              exact ⟨rfl, rfl⟩
          · skip
            have q1 : decide ((97 : Int) ≤ (y : Int)) = true := by simp; omega
            have q2 : decide ((y : Int) ≤ 122) = false := by simp; omega
            have q3 : decide ((65 : Int) ≤ (y : Int)) = true := by simp; omega
            have q4 : decide ((y : Int) ≤ 90) = false := by simp; omega
            have q5 : decide ((48 : Int) ≤ (y : Int)) = true := by simp; omega
            have q6 : decide ((y : Int) ≤ 57) = false := by simp; omega
            clear h
            go_wp2
            all_goals
              go_ret
              exact ⟨rfl, rfl⟩
      · obtain rfl : j = N := by omega
        obtain rfl : b = true := by have := HJ.out; rw [Nat.sub_self] at this; exact this.symm
        have hjz : ¬ (j : Int) < (j : Int) := by omega
        go_wp2
        go_ret
        exact ⟨rfl, rfl⟩

/-- three rows of texts: the words, the assignments, the others; the last two are the call's own -/
structure EW (B gx cx : Nat) (l es ws : List (List UInt8)) (g1 c1 g2 c2 : Nat) (w : World) : Prop where
  rx : w.ownsRow B 9 1 (.slice (some ⟨gx, 0, none⟩) l.length cx) l.length (l.map strV)
  re : w.ownsRow B 9 1 (.slice (some ⟨g1, 0, none⟩) es.length c1) es.length (es.map strV)
  rr : w.ownsRow B 9 1 (.slice (some ⟨g2, 0, none⟩) ws.length c2) ws.length (ws.map strV)
  n1 : g1 ≠ gx
  n2 : g2 ≠ gx
  n3 : g1 ≠ g2
  lB : B ≤ w.heap.size
section
variable {B gx cx : Nat} {l es ws : List (List UInt8)} {g1 c1 g2 c2 : Nat} {w : World}
theorem EW.cell (h : EW B gx cx l es ws g1 c1 g2 c2 w) {k : Nat} {y : List UInt8} (hk : l[k]? = some y) : w.cell? ⟨gx, k, none⟩ = some (.string ⟨y.toArray⟩) := by
  have := h.rx.cells (g := gx) rfl k (.string ⟨y.toArray⟩) (by simp [hk, strV])
  rwa [Addr.add_lit, Nat.zero_add] at this
theorem EW.appE (h : EW B gx cx l es ws g1 c1 g2 c2 w) {y : List UInt8} {v' : Value} {w' : World} (hg : w.grownBy w' (some g1)) (ho : w'.ownsRow B 9 1 v' (es.length + 1) (es.map strV ++ [strV y])) (hat : v'.ownBlock = some g1 ∨ v'.ownBlock = some w.heap.size) :
    ∃ g' c', v' = .slice (some ⟨g', 0, none⟩) (es.length + 1) c' ∧ EW B gx cx l (es ++ [y]) ws g' c' g2 c2 w' := by
  obtain ⟨g', c', rfl⟩ := own_sl ho (.inr (by omega))
  have hx := h.rx.lt gx rfl
  have hw := h.rr.lt g2 rfl
  have hg' : g' = g1 ∨ g' = w.heap.size := by
    rcases hat with e | e
    · exact .inl (Option.some.inj e)
    · exact .inr (Option.some.inj e)
  have n1 := h.n1
  have n3 := h.n3
  refine ⟨g', c', rfl, kept_ne h.rx hg (fun k hk e => ?_), ?_, kept_ne h.rr hg (fun k hk e => ?_), by omega, h.n2, by omega, Nat.le_trans h.lB hg.size⟩
  · cases hk
    exact n1 (Option.some.inj e).symm
  · rw [List.length_append, List.map_append]
    exact ho
  · cases hk
    exact n3 (Option.some.inj e).symm
theorem EW.appW (h : EW B gx cx l es ws g1 c1 g2 c2 w) {y : List UInt8} {v' : Value} {w' : World} (hg : w.grownBy w' (some g2)) (ho : w'.ownsRow B 9 1 v' (ws.length + 1) (ws.map strV ++ [strV y])) (hat : v'.ownBlock = some g2 ∨ v'.ownBlock = some w.heap.size) :
    ∃ g' c', v' = .slice (some ⟨g', 0, none⟩) (ws.length + 1) c' ∧ EW B gx cx l es (ws ++ [y]) g1 c1 g' c' w' := by
  obtain ⟨g', c', rfl⟩ := own_sl ho (.inr (by omega))
  have hx := h.rx.lt gx rfl
  have he := h.re.lt g1 rfl
  have hg' : g' = g2 ∨ g' = w.heap.size := by
    rcases hat with e | e
    · exact .inl (Option.some.inj e)
    · exact .inr (Option.some.inj e)
  have n2 := h.n2
  have n3 := h.n3
  refine ⟨g', c', rfl, kept_ne h.rx hg (fun k hk e => ?_), kept_ne h.re hg (fun k hk e => ?_), ?_, h.n1, by omega, by omega, Nat.le_trans h.lB hg.size⟩
  · cases hk
    exact n2 (Option.some.inj e).symm
  · cases hk
    exact n3 (Option.some.inj e)
  · rw [List.length_append, List.map_append]
    exact ho
theorem EW.alloc (h : EW B gx cx l es ws g1 c1 g2 c2 w) (o : Obj) : EW B gx cx l es ws g1 c1 g2 c2 (w.alloc o) :=
  ⟨h.rx.alloc o, h.re.alloc o, h.rr.alloc o, h.n1, h.n2, h.n3, Nat.le_trans h.lB (by simp)⟩
end
/-- behind k words -/
def EInv (l es ws : List (List UInt8)) (pf : Bool) (k : Nat) : Prop :=
  (pf = true → ws = [] ∧ es ++ (l.drop k).takeWhile isEnvB = l.takeWhile isEnvB ∧ (l.drop k).dropWhile isEnvB = l.dropWhile isEnvB) ∧ (pf = false → es = l.takeWhile isEnvB ∧ ws ++ l.drop k = l.dropWhile isEnvB)
theorem einv_env {l es ws : List (List UInt8)} {k : Nat} {y : List UInt8} (h : EInv l es ws true k) (hd : l.drop k = y :: l.drop (k + 1)) (hy : isEnvB y = true) : EInv l (es ++ [y]) ws true (k + 1) := by
  obtain ⟨h1, h2, h3⟩ := h.1 rfl
  rw [hd, List.takeWhile_cons, hy, if_pos rfl] at h2
  rw [hd, List.dropWhile_cons, hy, if_pos rfl] at h3
  exact ⟨fun _ => ⟨h1, by rw [List.append_assoc]; exact h2, h3⟩, fun h => by cases h⟩
theorem einv_not {l es ws : List (List UInt8)} {k : Nat} {y : List UInt8} (h : EInv l es ws true k) (hd : l.drop k = y :: l.drop (k + 1)) (hy : isEnvB y = false) : EInv l es (ws ++ [y]) false (k + 1) := by
  obtain ⟨h1, h2, h3⟩ := h.1 rfl
  rw [hd, List.takeWhile_cons, hy, if_neg (by decide), List.append_nil] at h2
  rw [hd, List.dropWhile_cons, hy, if_neg (by decide)] at h3
  exact ⟨(fun h => by cases h), fun _ => ⟨h2, by rw [h1]; exact h3⟩⟩
theorem einv_more {l es ws : List (List UInt8)} {k : Nat} {y : List UInt8} (h : EInv l es ws false k) (hd : l.drop k = y :: l.drop (k + 1)) : EInv l es (ws ++ [y]) false (k + 1) := by
  obtain ⟨h1, h2⟩ := h.2 rfl
  rw [hd] at h2
  exact ⟨(fun h => by cases h), fun _ => ⟨h1, by rw [List.append_assoc]; exact h2⟩⟩
theorem einv_end {l es ws : List (List UInt8)} {pf : Bool} {k : Nat} (h : EInv l es ws pf k) (hk : l.length ≤ k) : es = l.takeWhile isEnvB ∧ ws = l.dropWhile isEnvB := by
  have hd : l.drop k = [] := List.drop_eq_nil_of_le hk
  cases pf with
  | true =>
    obtain ⟨h1, h2, h3⟩ := h.1 rfl
    rw [hd] at h2 h3
    simp at h2 h3
    exact ⟨h2, by rw [h1, ← h3]⟩
  | false =>
    obtain ⟨h1, h2⟩ := h.2 rfl
    rw [hd, List.append_nil] at h2
    exact ⟨h1, h2⟩
/-- what ParseWithEnvs answers -/
def QEPost (slp : Bool) (ANS : PA) (w0 W : World) (e : Ending) (w' : World) : Prop :=
  ∃ A : PA, (slp = false → A = ANS) ∧ Below w0.heap.size W w' ∧
    match A with
    | none => ∃ u x, e = .returned (.tuple #[.slice none 0 0, .slice none 0 0, .iface u x])
    | some (l, ps) => ∃ g1 c1 g2 c2, e = .returned (.tuple #[.slice (some ⟨g1, 0, none⟩) (l.takeWhile isEnvB).length c1, .slice (some ⟨g2, 0, none⟩) (l.dropWhile isEnvB).length c2, .nilIface]) ∧
        w'.ownsRow w0.heap.size 9 1 (.slice (some ⟨g1, 0, none⟩) (l.takeWhile isEnvB).length c1) (l.takeWhile isEnvB).length ((l.takeWhile isEnvB).map strV) ∧
        w'.ownsRow w0.heap.size 9 1 (.slice (some ⟨g2, 0, none⟩) (l.dropWhile isEnvB).length c2) (l.dropWhile isEnvB).length ((l.dropWhile isEnvB).map strV)
set_option maxHeartbeats 4000000 in
set_option maxRecDepth 100000 in
theorem parseEnvs_at (s : ByteArray) (slp : Bool) (ANS : PA) (w0 W : World) (P : Nat) (hPA : Calls Tryd.prog 26 #[.pointer (some ⟨P, 0, none⟩), .string s] W (QPost P slp ANS w0 W)) (hw0 : w0.heap.size ≤ W.heap.size) :
    Calls Tryd.prog 29 #[.pointer (some ⟨P, 0, none⟩), .string s] W (QEPost slp ANS w0 W) := by
  have HPA := Lib.hid hPA
  clear hPA
  obtain ⟨i0, hi, hz0, hz1, hz2⟩ := info_parts infoStr
  go_enter Tryd.func29, Tryd.ntmps29
  go_wp2_with (go_at_call 26; (with_reducible refine HPA.out.mono ?_))
  rintro e w2 ⟨A, hA, hb2, hm⟩
  have HA := Lib.hid hA
  have HB2 := Lib.hid hb2
  clear hA hb2 HPA
  cases A with
  | none =>
    obtain ⟨u, x, rfl⟩ := hm
    dsimp only
    go_wp2_with fail
    go_ret3
    exact ⟨none, HA.out, HB2.out, u, x, rfl⟩
  | some p =>
    obtain ⟨l, ps⟩ := p
    obtain ⟨gx, cx, hll, hxl, rfl, ho, hp⟩ := hm
    have HXL := Lib.hid hxl
    clear hxl
    have hx := ho.lt gx rfl
    clear hp
    dsimp only
    go_wp2_with fail
    have HI := Lib.hid (And.intro hi (And.intro hz0 (And.intro hz1 hz2)))
    clear hi hz0 hz1 hz2
    have hew0 : EW w0.heap.size gx cx l [] [] w2.heap.size 0 (w2.heap.size + 1) 0 ((w2.alloc (.cells #[] 9)).alloc (.cells #[] 9)) := by
      refine ⟨(ho.alloc _).alloc _, ?_, ?_, by omega, by omega, by omega, ?_⟩
      · exact World.ownsRow.alloc ⟨rfl, .inr ⟨_, 0, #[], rfl, by omega, heap_alloc_new _ _, Nat.le_refl _, by unfold maxLen; omega, rfl, rfl⟩⟩ _
      · have := heap_alloc_new (w2.alloc (.cells #[] 9)) (.cells #[] 9)
        exact ⟨rfl, .inr ⟨_, 0, #[], rfl, by omega, by simpa using this, Nat.le_refl _, by unfold maxLen; omega, rfl, rfl⟩⟩
      · simp; omega
    have hb0 : Below w0.heap.size W ((w2.alloc (.cells #[] 9)).alloc (.cells #[] 9)) := (HB2.out.alloc (by omega) _).alloc (by simp; omega) _
    have HEW0 := Lib.hid hew0
    have HB0 := Lib.hid hb0
    clear hew0 hb0 ho
    go_loopg [4, 5, 8, 24] l.length (fun c v4 v5 v8 v24 wr => ∃ (k : Nat) (es ws : List (List UInt8)) (g1 c1 g2 c2 : Nat) (pf : Bool), v4 = .slice (some ⟨g1, 0, none⟩) es.length c1 ∧ v5 = .slice (some ⟨g2, 0, none⟩) ws.length c2 ∧ v8 = .bool pf ∧ v24 = .int .i64 k ∧ k ≤ l.length ∧ c = l.length - k ∧
      EW w0.heap.size gx cx l es ws g1 c1 g2 c2 wr ∧ Below w0.heap.size W wr ∧ Hid (EInv l es ws pf k) ∧ es.length ≤ k ∧ ws.length ≤ k)
    case atStart => exact ⟨0, [], [], _, _, _, _, true, rfl, rfl, rfl, rfl, Nat.zero_le _, rfl, HEW0.out, HB0.out, Lib.hid ⟨fun _ => ⟨rfl, rfl, rfl⟩, fun h => by cases h⟩, Nat.le_refl _, Nat.le_refl _⟩
    case round =>
      obtain ⟨k, es, ws, g1, c1, g2, c2, pf, rfl, rfl, rfl, rfl, hk, hc, hew, hbr, HV, hes, hws⟩ := hrel
      have HC := Lib.hid hc
      have HEW := Lib.hid hew
      have HBr := Lib.hid hbr
      clear hc hew hbr HEW0 HB0
      by_cases hkl : k < l.length
      · obtain ⟨y, hy⟩ : ∃ y, l[k]? = some y := ⟨_, List.getElem?_eq_getElem hkl⟩
        have hcell := HEW.out.cell hy
        have HD := Lib.hid (show l.drop k = y :: l.drop (k + 1) by obtain ⟨_, h2⟩ := List.getElem?_eq_some_iff.1 hy; rw [List.drop_eq_getElem_cons hkl, h2])
        have hkz : (k : Int) < (l.length : Int) := by omega
        have HY := Lib.hid (List.mem_of_getElem? hy)
        clear hy
        cases pf with
        | false =>
          go_wp2_with (at_builtin; refine wpList_append_own_at _ rfl _ _ 24 rfl w0.heap.size 9 i0 (.string ByteArray.empty) 1 16 Tryd.underlying24 HI.out.1 HI.out.2.1 HI.out.2.2.1 HI.out.2.2.2 rfl (by decide) _ _ _ rfl (HEW.out.rr.alloc _) ⟨wr.heap.size, 0, none⟩ 1 1 [.string ⟨y.toArray⟩] rfl rfl ?paa ?pab ?pac ?pad ?pae ?_)
          first | (case paa => exact cell_one_new _ _ _) | skip
          case pab => first | rfl | (intro u hu; simp at hu; subst hu; rfl)
          case pac => unfold maxLen; omega
          case pad => omega
          case pae => have := HEW.out.lB; simp; omega
          intro v' w4 hown hgr _ hat
          obtain ⟨g', c', rfl, hew'⟩ := (HEW.out.alloc (.cells #[.string ⟨y.toArray⟩] 9)).appW hgr hown (hat.imp (fun h => h) (fun h => by simpa using h))
          have HEW' := Lib.hid hew'
          have HB' := Lib.hid ((HBr.out.alloc HEW.out.lB (.cells #[.string ⟨y.toArray⟩] 9)).grown hgr (by have := HEW.out.lB; simp; omega) (fun k hk => (HEW.out.rr.lt k hk).1))
          clear hew' hown hgr hat
          go_wp2
          go_roundg (l.length - (k + 1))
          case measure => have := HC.out; omega
          case rel => exact ⟨k + 1, es, ws ++ [y], g1, c1, g', c', false, rfl, by simp, rfl, by go_num, by omega, by omega, HEW'.out, HB'.out, Lib.hid (einv_more HV.out HD.out), by first | omega | (simp; omega), by first | omega | (simp; omega)⟩
        | true =>
          obtain ⟨bb, hbb⟩ : ∃ bb, isEnvB y = bb := ⟨_, rfl⟩
          have HEN := Lib.hid (isEnv_any ⟨y.toArray⟩ wr bb hbb (by have := HXL.out y HY.out; rw [Lib.size_eq]; show y.length ≤ _; omega))
          cases bb with
          | true =>
            have HYB := Lib.hid hbb
            clear hbb
            go_upto_if 32 with (go_at_call 42; (with_reducible refine HEN.out.mono ?_); rintro e w3 ⟨rfl, rfl⟩; dsimp only)
            go_wp2_with (at_builtin; refine wpList_append_own_at _ rfl _ _ 24 rfl w0.heap.size 9 i0 (.string ByteArray.empty) 1 16 Tryd.underlying24 HI.out.1 HI.out.2.1 HI.out.2.2.1 HI.out.2.2.2 rfl (by decide) _ _ _ rfl (HEW.out.re.alloc _) ⟨wr.heap.size, 0, none⟩ 1 1 [.string ⟨y.toArray⟩] rfl rfl ?pba ?pbb ?pbc ?pbd ?pbe ?_)
            first | (case pba => exact cell_one_new _ _ _) | skip
            case pbb => first | rfl | (intro u hu; simp at hu; subst hu; rfl)
            case pbc => unfold maxLen; omega
            case pbd => omega
            case pbe => have := HEW.out.lB; simp; omega
            intro v' w4 hown hgr _ hat
            obtain ⟨g', c', rfl, hew'⟩ := (HEW.out.alloc (.cells #[.string ⟨y.toArray⟩] 9)).appE hgr hown (hat.imp (fun h => h) (fun h => by simpa using h))
            have HEW' := Lib.hid hew'
            have HB' := Lib.hid ((HBr.out.alloc HEW.out.lB (.cells #[.string ⟨y.toArray⟩] 9)).grown hgr (by have := HEW.out.lB; simp; omega) (fun k hk => (HEW.out.re.lt k hk).1))
            clear hew' hown hgr hat
            go_wp2
            go_roundg (l.length - (k + 1))
            case measure => have := HC.out; omega
            case rel => exact ⟨k + 1, es ++ [y], ws, g', c', g2, c2, true, by simp, rfl, rfl, by go_num, by omega, by omega, HEW'.out, HB'.out, Lib.hid (einv_env HV.out HD.out HYB.out), by first | omega | (simp; omega), by first | omega | (simp; omega)⟩
          | false =>
            have HYB := Lib.hid hbb
            clear hbb
            go_upto_if 32 with (go_at_call 42; (with_reducible refine HEN.out.mono ?_); rintro e w3 ⟨rfl, rfl⟩; dsimp only)
            go_wp2_with (at_builtin; refine wpList_append_own_at _ rfl _ _ 24 rfl w0.heap.size 9 i0 (.string ByteArray.empty) 1 16 Tryd.underlying24 HI.out.1 HI.out.2.1 HI.out.2.2.1 HI.out.2.2.2 rfl (by decide) _ _ _ rfl (HEW.out.rr.alloc _) ⟨wr.heap.size, 0, none⟩ 1 1 [.string ⟨y.toArray⟩] rfl rfl ?pca ?pcb ?pcc ?pcd ?pce ?_)
            first | (case pca => exact cell_one_new _ _ _) | skip
            case pcb => first | rfl | (intro u hu; simp at hu; subst hu; rfl)
            case pcc => unfold maxLen; omega
            case pcd => omega
            case pce => have := HEW.out.lB; simp; omega
            intro v' w4 hown hgr _ hat
            obtain ⟨g', c', rfl, hew'⟩ := (HEW.out.alloc (.cells #[.string ⟨y.toArray⟩] 9)).appW hgr hown (hat.imp (fun h => h) (fun h => by simpa using h))
            have HEW' := Lib.hid hew'
            have HB' := Lib.hid ((HBr.out.alloc HEW.out.lB (.cells #[.string ⟨y.toArray⟩] 9)).grown hgr (by have := HEW.out.lB; simp; omega) (fun k hk => (HEW.out.rr.lt k hk).1))
            clear hew' hown hgr hat
            go_wp2
            go_roundg (l.length - (k + 1))
            case measure => have := HC.out; omega
            case rel => exact ⟨k + 1, es, ws ++ [y], g1, c1, g', c', false, rfl, by simp, rfl, by go_num, by omega, by omega, HEW'.out, HB'.out, Lib.hid (einv_not HV.out HD.out HYB.out), by first | omega | (simp; omega), by first | omega | (simp; omega)⟩
      · have hkz : ¬ (k : Int) < (l.length : Int) := by omega
        obtain ⟨e1, e2⟩ := einv_end HV.out (by omega)
        subst e1 e2
        go_wp2
        go_ret3
        exact ⟨some (l, ps), HA.out, HBr.out, g1, c1, g2, c2, rfl, HEW.out.re, HEW.out.rr⟩

/-- what impl.WordsEnvs answers -/
def WEPost (slp : Bool) (ANS : PA) (w0 : World) (e : Ending) (w' : World) : Prop :=
  ∃ A : PA, (slp = false → A = ANS) ∧ Below w0.heap.size w0 w' ∧
    match A with
    | none => e = .returned (.tuple #[.slice none 0 0, .slice none 0 0, .bool false])
    | some (l, ps) => ∃ g1 c1 g2 c2, e = .returned (.tuple #[.slice (some ⟨g1, 0, none⟩) (l.takeWhile isEnvB).length c1, .slice (some ⟨g2, 0, none⟩) (l.dropWhile isEnvB).length c2, .bool true]) ∧
        w'.ownsRow w0.heap.size 9 1 (.slice (some ⟨g1, 0, none⟩) (l.takeWhile isEnvB).length c1) (l.takeWhile isEnvB).length ((l.takeWhile isEnvB).map strV) ∧
        w'.ownsRow w0.heap.size 9 1 (.slice (some ⟨g2, 0, none⟩) (l.dropWhile isEnvB).length c2) (l.dropWhile isEnvB).length ((l.dropWhile isEnvB).map strV)
set_option maxHeartbeats 2000000 in
set_option maxRecDepth 100000 in
theorem wordsEnvs_any (s : ByteArray) (env cmt slp : Bool) (ANS : PA) (hANS : slp = false → words cmt (rnsOf s.data.toList) = ANS) (hDOL : slp = false → env = true → 36 ∉ rnsOf s.data.toList) (w : World) (hs : s.size ≤ 2147483648) (hPE : env = true → PEnv w) (hE : EVar w) :
    Calls Tryd.prog 20 #[.string s, .agg #[.bool env, .bool cmt, .slice none 0 0, .string ⟨#[]⟩]] w (WEPost slp ANS w) := by
  have HP1 := Lib.hid (fun W => parser_any env cmt W)
  have HPA := Lib.hid (fun (W0 W : World) (P : Nat) (hb0 : Below w.heap.size w W0) (h : IsParser P W0.heap.size env cmt W) (hb : Below W0.heap.size W0 W) => parseEnvs_at s slp ANS W0 W P (parse_at s env cmt slp ANS hANS hDOL W0 hs (fun he => (hPE he).below hb0) W P h hb ((hE.below hb0).below hb)) hb.size)
  clear hANS hDOL hPE hE
  go_enter Tryd.func20, Tryd.ntmps20
  go_wp2_with (go_at_call 25; (with_reducible refine (HP1.out _).mono ?_))
  rintro e w1 ⟨P, rfl, hip, hb1⟩
  dsimp only
  have hb0 := (Below.refl _ w).alloc (Nat.le_refl _) (.cells #[.bool env, .bool cmt, .slice none 0 0, .string ⟨#[]⟩] 29)
  have HQ := Lib.hid (HPA.out _ w1 P hb0 hip hb1)
  have HB1 := Lib.hid (bthen hb0 hb1)
  have hz0 : w.heap.size ≤ (w.alloc (.cells #[.bool env, .bool cmt, .slice none 0 0, .string ⟨#[]⟩] 29)).heap.size := hb0.size
  have HZ0 := Lib.hid hz0
  clear hip hb1 hb0 hz0 HPA HP1
  go_wp2_with (go_at_call 29; (with_reducible refine HQ.out.mono ?_))
  rintro e w2 ⟨A, hA, hb2, hm⟩
  have HB2 := Lib.hid (HB1.out.trans (hb2.mono HZ0.out))
  have HA := Lib.hid hA
  clear hA hb2 HQ
  cases A with
  | none =>
    obtain ⟨u, x, rfl⟩ := hm
    dsimp only
    go_wp2_with fail
    go_ret3
    exact ⟨none, HA.out, HB2.out, rfl⟩
  | some p =>
    obtain ⟨l, ps⟩ := p
    obtain ⟨g1, c1, g2, c2, rfl, ho1, ho2⟩ := hm
    have HO1 := Lib.hid (own_mono ho1 HZ0.out)
    have HO2 := Lib.hid (own_mono ho2 HZ0.out)
    clear ho1 ho2
    obtain ⟨n1, hn1⟩ : ∃ n1, (l.takeWhile isEnvB).length = n1 := ⟨_, rfl⟩
    obtain ⟨n2, hn2⟩ : ∃ n2, (l.dropWhile isEnvB).length = n2 := ⟨_, rfl⟩
    rw [hn1, hn2]
    have HN1 := Lib.hid hn1
    have HN2 := Lib.hid hn2
    clear hn1 hn2
    dsimp only
    go_wp2_with fail
    go_ret3
    refine ⟨some (l, ps), HA.out, HB2.out, g1, c1, g2, c2, ?_, HO1.out, HO2.out⟩
    rw [HN1.out, HN2.out]
    rfl
end Go.Proofs.YtcjfcjlendibpaaDoor

namespace Go.Proofs.YtcjfcjlendibpaaDoor
open Go.RowKit Plain

/-- what 'at' says -/
def AtRes (s t : List UInt8) (f : Nat) (r : Int) : Prop :=
  (r = -1 ∧ ∀ i, f ≤ i → i + t.length ≤ s.length → ¬ (s.drop i).take t.length = t) ∨ ∃ k : Nat, r = k ∧ f ≤ k ∧ k + t.length ≤ s.length ∧ (s.drop k).take t.length = t ∧ ∀ i, f ≤ i → i < k → ¬ (s.drop i).take t.length = t

set_option maxHeartbeats 1000000 in
set_option maxRecDepth 100000 in
theorem at_any (s t : ByteArray) (f : Nat) (w : World) (hs : s.size ≤ 140737488355328) (ht : t.size ≤ 140737488355328) (hf : f ≤ 140737488355328) :
    Calls Tryd.prog 21 #[.string s, .string t, .int .i64 (f : Int)] w fun e w' => ∃ r, e = .returned (.int .i64 r) ∧ AtRes s.data.toList t.data.toList f r ∧ w' = w := by
  go_enter Tryd.func21, Tryd.ntmps21
  go_wp2
  go_loopw [7] (fun iv wr => ∃ (i : Nat), iv = .int .i64 i ∧ f ≤ i ∧ i ≤ 140737488355329 ∧ (∀ j, f ≤ j → j < i → j + t.size ≤ s.size → ¬ (s.data.toList.drop j).take t.data.toList.length = t.data.toList) ∧ wr = w) (fun iv _ => match iv with | .int _ i => s.size + 1 - i.toNat | _ => 0)
  case atStart => exact ⟨f, rfl, Nat.le_refl _, by omega, fun j h1 h2 => by omega, rfl⟩
  case round =>
    obtain ⟨i, rfl, hfi, hib, hno, rfl⟩ := hrel
    have HN := Lib.hid hno
    clear hno
    by_cases hle : i + t.size ≤ s.size
    · obtain ⟨E, hE⟩ : ∃ E, i + t.size = E := ⟨_, rfl⟩
      have hEz : (i : Int) + (t.size : Int) = (E : Int) := by omega
      have hEs : E ≤ s.size := by omega
      have hiE : i ≤ E := by omega
      have hi : i ≤ 140737488355328 := by omega
      have HE := Lib.hid hE
      clear hE
      by_cases hm : (s.extract i E).toList = t.toList
      · have hmb : ((s.extract i E).toList == t.toList) = true := by rw [beq_iff_eq]; exact hm
        go_wp2
        go_ret
        have hE := HE.out
        refine ⟨_, rfl, .inr ⟨i, rfl, hfi, by rw [← Lib.size_eq, ← Lib.size_eq]; omega, ?_, fun j h1 h2 => HN.out j h1 h2 (by omega)⟩, rfl⟩
        rw [Lib.extract_toList, Lib.toList_data] at hm
        rw [← hm]
        congr 1
        rw [hm, ← Lib.size_eq]
        omega
      · have hmb : ((s.extract i E).toList == t.toList) = false := by rw [beq_eq_false_iff_ne]; exact hm
        go_wp2
        go_roundw
        case rel =>
          have hE := HE.out
          refine ⟨i + 1, by go_num, by omega, by omega, fun j h1 h2 h3 => ?_, trivial⟩
          by_cases hji : j < i
          · exact HN.out j h1 hji h3
          · obtain rfl : j = i := by omega
            intro h4
            apply hm
            rw [Lib.extract_toList, Lib.toList_data, ← h4]
            congr 1
            rw [← Lib.size_eq]
            omega
        case measure => show s.size + 1 - ((i : Int) + 1).toNat < s.size + 1 - (i : Int).toNat; omega
    · have hz : ¬ (i : Int) + (t.size : Int) ≤ (s.size : Int) := by omega
      go_wp2
      go_ret
      refine ⟨_, rfl, .inl ⟨rfl, fun j h1 h2 => ?_⟩, rfl⟩
      rw [← Lib.size_eq, ← Lib.size_eq] at h2
      exact HN.out j h1 (by omega) h2
end Go.Proofs.YtcjfcjlendibpaaDoor
