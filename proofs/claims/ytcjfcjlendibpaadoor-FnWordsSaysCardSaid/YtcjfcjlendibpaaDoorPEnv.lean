/- The walk of shellwords.parseEnvName, as far as the reading of a line wants it. -/
import Derived.Test.YtcjfcjlendibpaaDoorPMem
import Derived.Lib.SmallJoins
import Derived.Shelf.Unicode.PredsPay
import Derived.Shelf.Strings.FuncGrows
set_option linter.unusedVariables false
namespace Go.Proofs.YtcjfcjlendibpaaDoor
open Go.RowKit Plain

/-- the contract of parseEnvName, as far as the reading of a line wants it -/
def PEnv (w : World) : Prop := ∀ (t : ByteArray) (W : World), Below w.heap.size w W → t.size ≤ 2147483648 → ∃ (nm : ByteArray) (k : Nat) (okb : Bool), k ≤ 2147483650 ∧ Calls Tryd.prog 41 #[.string t] W fun e w' => e = .returned (.tuple #[.string nm, .int .i64 (k : Int), .bool okb]) ∧ Below W.heap.size W w'
theorem PEnv.below {w w1 : World} (h : PEnv w) (hb : Below w.heap.size w w1) : PEnv w1 := fun t W hW ht => h t W (bthen hb hW) ht
/-- the error's variable holds an error -/
def EVar (w : World) : Prop := ∃ u x, w.cell? ⟨0, 0, none⟩ = some (.iface u x)
theorem EVar.lt {w : World} (h : EVar w) : 0 < w.heap.size := by
  obtain ⟨u, x, h⟩ := h
  exact World.block_lt_of_cell? w ⟨0, 0, none⟩ h
theorem EVar.below {w w1 : World} (h : EVar w) (hb : Below w.heap.size w w1) : EVar w1 := by
  have hl := h.lt
  obtain ⟨u, x, h⟩ := h
  exact ⟨u, x, (hb.cell (p := ⟨0, 0, none⟩) hl).trans h⟩
/-- the tables of package unicode's -/
structure UTabs (w : World) : Prop where
  p : Lib.TabIs Tryd.prog w "unicode.properties" .u8 Lib.propertiesTab
  l : Lib.RVar 2 Lib.letterT w
  d : Lib.RVar 3 Lib.digitT w
theorem UTabs.below {w w' : World} (h : UTabs w) (hb : Below w.heap.size w w') : UTabs w' :=
  ⟨Joins.tab_stays (g := 1) (by kernel_rfl) h.p hb (Nat.le_refl _), RVar_below h.l hb, RVar_below h.d hb⟩
def envRune (r : Nat) : Bool := Lib.isLetterU (r : Int) || Lib.isDigitU (r : Int) || r == 95
set_option maxHeartbeats 1000000 in
set_option maxRecDepth 100000 in
theorem envRune_any (r : Nat) (w : World) (hr : r ≤ 1114111) (hT : UTabs w) (b : Bool) (hb : envRune r = b) :
    Calls Tryd.prog 49 #[.int .i32 (r : Int)] w fun e w' => e = .returned (.bool b) ∧ Below w.heap.size w w' := by
  have HL := Lib.hid (fun (w : World) (hT : UTabs w) => Tryd.unicode_IsLetter_all (r : Int) w (by omega) (by omega) hT.p hT.l)
  have HD := Lib.hid (fun (w : World) (hT : UTabs w) => Tryd.unicode_IsDigit_all (r : Int) w (by omega) (by omega) hT.d)
  unfold envRune at hb
  generalize Lib.isLetterU (r : Int) = x at HL hb
  generalize Lib.isDigitU (r : Int) = y at HD hb
  have h95 : ((r : Int) == 95) = (r == 95) := by
    rw [Bool.eq_iff_iff]; simp; omega
  generalize hz : (r == 95) = z at hb h95
  clear hz
  cases x with
  | true =>
    obtain rfl : b = true := by rw [← hb]; rfl
    clear hb h95
    go_enter Tryd.func49, Tryd.ntmps49
    go_wp2_with (go_at_call 55; (with_reducible refine (HL.out _ hT).mono ?_); rintro e w1 ⟨rfl, hb1⟩; dsimp only)
    go_wp2
    go_ret
    exact ⟨rfl, hb1⟩
  | false =>
    cases y with
    | true =>
      obtain rfl : b = true := by rw [← hb]; rfl
      clear hb h95
      go_enter Tryd.func49, Tryd.ntmps49
      go_wp2_with (first | (go_at_call 55; (with_reducible refine (HL.out _ hT).mono ?_); rintro e w1 ⟨rfl, hb1⟩; have hT1 := hT.below hb1; dsimp only) | (go_at_call 56; (with_reducible refine (HD.out _ (by assumption)).mono ?_); rintro e w2 ⟨rfl, hb2⟩; dsimp only))
      go_wp2
      go_ret
      exact ⟨rfl, bthen hb1 hb2⟩
    | false =>
      obtain rfl : b = z := by rw [← hb]; rfl
      clear hb
      go_enter Tryd.func49, Tryd.ntmps49
      go_wp2_with (first | (go_at_call 55; (with_reducible refine (HL.out _ hT).mono ?_); rintro e w1 ⟨rfl, hb1⟩; have hT1 := hT.below hb1; dsimp only) | (go_at_call 56; (with_reducible refine (HD.out _ (by assumption)).mono ?_); rintro e w2 ⟨rfl, hb2⟩; dsimp only))
      go_wp2
      go_ret
      exact ⟨rfl, bthen hb1 hb2⟩
set_option maxRecDepth 100000 in
theorem env1_any (r : Nat) (w : World) (hr : r ≤ 1114111) (hT : UTabs w) :
    Calls Tryd.prog 48 #[.int .i32 (r : Int)] w fun e w' => e = .returned (.bool (!envRune r)) ∧ Below w.heap.size w w' := by
  obtain ⟨b, hb⟩ : ∃ b, envRune r = b := ⟨_, rfl⟩
  have HE := Lib.hid (envRune_any r w hr hT b hb)
  rw [hb]
  clear hb
  go_enter Tryd.func48, Tryd.ntmps48
  go_wp2_with (go_at_call 49; (with_reducible refine HE.out.mono ?_); rintro e w1 ⟨rfl, hb1⟩; dsimp only)
  go_wp2
  go_ret
  exact ⟨rfl, hb1⟩
set_option maxRecDepth 100000 in
theorem env2_any (r : Nat) (w : World) (hr : r ≤ 1114111) (hT : UTabs w) :
    Calls Tryd.prog 50 #[.int .i32 (r : Int)] w fun e w' => e = .returned (.bool (!envRune r)) ∧ Below w.heap.size w w' := by
  obtain ⟨b, hb⟩ : ∃ b, envRune r = b := ⟨_, rfl⟩
  have HE := Lib.hid (envRune_any r w hr hT b hb)
  rw [hb]
  clear hb
  go_enter Tryd.func50, Tryd.ntmps50
  go_wp2_with (go_at_call 49; (with_reducible refine HE.out.mono ?_); rintro e w1 ⟨rfl, hb1⟩; dsimp only)
  go_wp2
  go_ret
  exact ⟨rfl, hb1⟩
theorem enters1 : ∀ args w, (callFunc 48 args).run Tryd.prog w = .ok (.enter 48 args) w := enters_of Tryd.func48 (by kernel_rfl) rfl
theorem enters2 : ∀ args w, (callFunc 50 args).run Tryd.prog w = .ok (.enter 50 args) w := enters_of Tryd.func50 (by kernel_rfl) rfl
theorem idx1_any (t : ByteArray) (w : World) (hT : UTabs w) :
    Calls Tryd.prog 47 #[.string t, .func (.func 48) #[] #[]] w fun e w' => e = .returned (.int .i64 (Lib.idxFunc (fun r => !envRune r) true t)) ∧ Below w.heap.size w w' :=
  Tryd.strings_IndexFunc_grows _ #[] enters1 (fun r => !envRune r) t w (fun W x hx hb => env1_any x W hx (hT.below hb))
theorem idx2_any (t : ByteArray) (w : World) (hT : UTabs w) :
    Calls Tryd.prog 47 #[.string t, .func (.func 50) #[] #[]] w fun e w' => e = .returned (.int .i64 (Lib.idxFunc (fun r => !envRune r) true t)) ∧ Below w.heap.size w w' :=
  Tryd.strings_IndexFunc_grows _ #[] enters2 (fun r => !envRune r) t w (fun W x hx hb => env2_any x W hx (hT.below hb))
theorem idx_range (p : Nat → Bool) (t : ByteArray) : Lib.idxFunc p true t = -1 ∨ (0 ≤ Lib.idxFunc p true t ∧ Lib.idxFunc p true t < t.size) := by
  have h := Lib.idxFuncFrom_range p true t t.size 0
  change Lib.idxFunc p true t = -1 ∨ _ at h
  rcases h with h | h
  · exact .inl h
  · right
    have h' := h
    simp at h'
    exact ⟨by first | exact h'.1 | omega, by first | exact h'.2 | omega⟩
set_option maxHeartbeats 1000000 in
set_option maxRecDepth 100000 in
theorem parseEnvName_any (w : World) (hT : UTabs w) : PEnv w := by
  intro t W hW ht
  have hTW := hT.below hW
  clear hW hT
  by_cases hpre : Lib.hasPrefix t.data.toList (⟨#[123]⟩ : ByteArray).data.toList = true
  · have h1 : 1 ≤ t.size := by
      rw [Lib.size_eq]
      cases hl : t.data.toList with
      | nil => rw [hl] at hpre; exact absurd hpre (by decide)
      | cons x l => simp
    have HP := Lib.hid (fun w => Tryd.strings_HasPrefix t ⟨#[123]⟩ w)
    rw [hpre] at HP
    have hrg := idx_range (fun r => !envRune r) (t.extract 1 t.size)
    have HI := Lib.hid (fun w hT => idx1_any (t.extract 1 t.size) w hT)
    have hsz : (t.extract 1 t.size).size = t.size - 1 := by simp
    rw [hsz] at hrg
    generalize Lib.idxFunc (fun r => !envRune r) true (t.extract 1 t.size) = I at hrg HI
    clear hpre hsz
    have h1z : (1 : Int) ≤ (t.size : Int) := by omega
    rcases hrg with rfl | ⟨hi0, hi1⟩
    · refine ⟨⟨#[]⟩, 0, false, by omega, ?_⟩
      go_enter Tryd.func41, Tryd.ntmps41
      go_wp2_with (first | (go_at_call 46; (with_reducible refine (HP.out _).mono ?_); rintro e w1 ⟨rfl, rfl⟩; dsimp only) | (go_at_call 47; (with_reducible refine (HI.out _ hTW).mono ?_); rintro e w2 ⟨rfl, hb2⟩; dsimp only))
      go_wp2
      go_ret3
      exact ⟨rfl, hb2⟩
    · obtain ⟨m, rfl⟩ : ∃ m : Nat, I = (m : Int) := ⟨I.toNat, by omega⟩
      have hm1 : m + 1 < t.size := by omega
      obtain ⟨M, hM⟩ : ∃ M, m + 1 = M := ⟨_, rfl⟩
      have hadd : (1 : Int) + (m : Int) = (M : Int) := by omega
      have hadd2 : (m : Int) + 2 = ((m + 2 : Nat) : Int) := by omega
      have hm2 : M < t.size := by omega
      have hmz : (M : Int) < (t.size : Int) := by omega
      have hm3 : 1 ≤ M := by omega
      have hm4 : (1 : Int) ≤ (M : Int) := by omega
      have hm5 : M ≤ t.size := by omega
      have hk9 : m + 2 ≤ 2147483650 := by omega
      generalize m + 2 = M2 at hadd2 hk9
      clear hM hm1
      obtain ⟨y, hy⟩ : ∃ y, (t[M]'hm2).toNat = y := ⟨_, rfl⟩
      by_cases hc : y = 125
      · subst hc
        refine ⟨t.extract 1 M, M2, true, hk9, ?_⟩
        go_enter Tryd.func41, Tryd.ntmps41
        go_wp2_with (first | (go_at_call 46; (with_reducible refine (HP.out _).mono ?_); rintro e w1 ⟨rfl, rfl⟩; dsimp only) | (go_at_call 47; (with_reducible refine (HI.out _ hTW).mono ?_); rintro e w2 ⟨rfl, hb2⟩; dsimp only))
        go_wp2
        go_ret3
        exact ⟨rfl, hb2⟩
      · have hcz : ((y : Int) != 125) = true := by simp; omega
        clear hc
        refine ⟨⟨#[]⟩, 0, false, by omega, ?_⟩
        go_enter Tryd.func41, Tryd.ntmps41
        go_wp2_with (first | (go_at_call 46; (with_reducible refine (HP.out _).mono ?_); rintro e w1 ⟨rfl, rfl⟩; dsimp only) | (go_at_call 47; (with_reducible refine (HI.out _ hTW).mono ?_); rintro e w2 ⟨rfl, hb2⟩; dsimp only))
        go_wp2
        go_ret3
        exact ⟨rfl, hb2⟩
  · have hpre2 : Lib.hasPrefix t.data.toList (⟨#[123]⟩ : ByteArray).data.toList = false := by simpa using hpre
    have HP := Lib.hid (fun w => Tryd.strings_HasPrefix t ⟨#[123]⟩ w)
    rw [hpre2] at HP
    have hrg := idx_range (fun r => !envRune r) t
    have HI := Lib.hid (fun w hT => idx2_any t w hT)
    generalize Lib.idxFunc (fun r => !envRune r) true t = I at hrg HI
    clear hpre hpre2
    rcases hrg with rfl | ⟨hi0, hi1⟩
    · by_cases h0 : t.size = 0
      · have h0z : ((t.size : Int) == 0) = true := by simp [h0]
        clear h0
        refine ⟨⟨#[]⟩, 0, false, by omega, ?_⟩
        go_enter Tryd.func41, Tryd.ntmps41
        go_wp2_with (first | (go_at_call 46; (with_reducible refine (HP.out _).mono ?_); rintro e w1 ⟨rfl, rfl⟩; dsimp only) | (go_at_call 47; (with_reducible refine (HI.out _ hTW).mono ?_); rintro e w2 ⟨rfl, hb2⟩; dsimp only))
        go_wp2
        go_ret3
        exact ⟨rfl, hb2⟩
      · have h0z : ((t.size : Int) == 0) = false := by rw [beq_eq_false_iff_ne]; omega
        clear h0
        refine ⟨t, t.size, true, by omega, ?_⟩
        go_enter Tryd.func41, Tryd.ntmps41
        go_wp2_with (first | (go_at_call 46; (with_reducible refine (HP.out _).mono ?_); rintro e w1 ⟨rfl, rfl⟩; dsimp only) | (go_at_call 47; (with_reducible refine (HI.out _ hTW).mono ?_); rintro e w2 ⟨rfl, hb2⟩; dsimp only))
        go_wp2
        go_ret3
        exact ⟨rfl, hb2⟩
    · obtain ⟨m, rfl⟩ : ∃ m : Nat, I = (m : Int) := ⟨I.toNat, by omega⟩
      by_cases h0 : m = 0
      · have h0z : ((m : Int) == 0) = true := by simp [h0]
        clear h0
        refine ⟨⟨#[]⟩, 0, false, by omega, ?_⟩
        go_enter Tryd.func41, Tryd.ntmps41
        go_wp2_with (first | (go_at_call 46; (with_reducible refine (HP.out _).mono ?_); rintro e w1 ⟨rfl, rfl⟩; dsimp only) | (go_at_call 47; (with_reducible refine (HI.out _ hTW).mono ?_); rintro e w2 ⟨rfl, hb2⟩; dsimp only))
        go_wp2
        go_ret3
        exact ⟨rfl, hb2⟩
      · have h0z : ((m : Int) == 0) = false := by rw [beq_eq_false_iff_ne]; omega
        have hmn : m ≤ t.size := by omega
        clear h0
        refine ⟨t.extract 0 m, m, true, by omega, ?_⟩
        go_enter Tryd.func41, Tryd.ntmps41
        go_wp2_with (first | (go_at_call 46; (with_reducible refine (HP.out _).mono ?_); rintro e w1 ⟨rfl, rfl⟩; dsimp only) | (go_at_call 47; (with_reducible refine (HI.out _ hTW).mono ?_); rintro e w2 ⟨rfl, hb2⟩; dsimp only))
        go_wp2
        go_ret3
        exact ⟨rfl, hb2⟩
end Go.Proofs.YtcjfcjlendibpaaDoor
