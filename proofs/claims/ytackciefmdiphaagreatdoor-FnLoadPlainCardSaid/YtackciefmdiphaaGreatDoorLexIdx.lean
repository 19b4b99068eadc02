/- The lexer's questions of a rune. -/
import Derived.Test.YtackciefmdiphaaGreatDoorLexMem
import Derived.Test.YtackciefmdiphaaGreatDoorQIdx
import Derived.Lib.QuoteLoop
set_option linter.unusedVariables false
namespace Go.Proofs.YtackciefmdiphaaGreatDoor
open Go.RowKit Plain

/-- a rune that a decoder gives -/
def RuneR (R : Nat) : Prop := R ≤ 1114111 ∧ (R < 55296 ∨ 57343 < R)
theorem rAt_ok (s : ByteArray) (p : Nat) : RuneR (rAt s p) := by
  unfold rAt
  rw [Lib.decode_at]
  have h := Lib.decodeN_valid (s.size - p) (s.get! p).toNat (s.get! (p + 1)).toNat (s.get! (p + 2)).toNat (s.get! (p + 3)).toNat (s.get! p).toNat_lt
  unfold RuneR
  omega
set_option maxHeartbeats 4000000 in
set_option maxRecDepth 100000 in
theorem zi_fffd (q : ByteArray) (R : Nat) (w : World) (hR : R = 65533) (hq : q.size ≤ 100) (Z : Int) (hZ : ziF q R 0 = Z) :
    Calls Tryz.prog 139 #[.string q, .int .i32 (R : Int)] w fun e w' => e = .returned (.int .i64 Z) ∧ Below w.heap.size w w' := by
  have c1 : ¬ (R : Int) < 0 := by omega
  have c2 : ¬ (1114111 : Int) < (R : Int) := by omega
  have c4 : (R : Int) = 65533 := by omega
  have c6 : ((65533 : Int) == 65533) = true := rfl
  have HZ := Lib.hid hZ
  clear hZ
  all_goals
    go_enter Tryz.func139, Tryz.ntmps139
    go_wp2
    go_loopw [5, 6] (fun pv cv wr => ∃ (pos : Nat), wr.heap[w.heap.size]? = some (.stringIter q pos) ∧ pos ≤ q.size + 4 ∧ Below w.heap.size w wr ∧ Hid (ziF q R pos = Z)) (fun _ _ wr => q.size + 4 - wr.iterPos w.heap.size)
    case atStart => exact ⟨0, World.iter_heap w q 0, by omega, (Below.refl _ w).alloc (Nat.le_refl _) _, HZ⟩
    case round =>
      obtain ⟨pos, hit, hps, hbw, HP⟩ := hrel
      by_cases hp : pos < q.size
      · have hnx : ∀ ty, (Instr.next (.pointer (some ⟨w.heap.size, 0, none⟩)) true ty).run Tryz.prog wr = _ := fun ty => Lib.run_next_any_at wr w.heap.size q pos ty hit hp
        have hwd := Lib.decode_width_pos q pos hp
        have hd1 := decode_le q pos
        have hw4 : (Utf8.decode q pos).2 ≤ 4 := by rw [Lib.decode_at]; unfold Lib.decodeN; (repeat' split) <;> simp
        have hst := HP.out
        rw [ziF, dif_pos hp] at hst
        have hit2 := Lib.iterAt_heap wr w.heap.size q pos (pos + (Utf8.decode q pos).2) hit
        have hbw2 := Lib.below_iterAt hbw (k := w.heap.size) (Nat.le_refl _) q (pos + (Utf8.decode q pos).2)
        obtain ⟨C, hC⟩ : ∃ C, (Utf8.decode q pos).1 = C := ⟨_, rfl⟩
        obtain ⟨K, hK⟩ : ∃ K, (Utf8.decode q pos).2 = K := ⟨_, rfl⟩
        rw [hC] at hd1 hst
        rw [hK] at hwd hw4 hit2 hbw2 hst
        rw [hC, hK] at hnx
        clear hC hK
        obtain ⟨V, hV⟩ : ∃ V, wr.iterAt w.heap.size q (pos + K) = V := ⟨_, rfl⟩
        rw [hV] at hnx hit2 hbw2
        have HI := Lib.hid hit
        have HI2 := Lib.hid hit2
        have HB2 := Lib.hid hbw2
        clear hV hit hit2 hbw hbw2
        by_cases he : C = R
        · rw [if_pos he] at hst
          have HST := Lib.hid hst
          subst he
          clear hst
          go_wp2
          go_ret
          exact ⟨congrArg (fun z => Ending.returned (.int .i64 z)) HST.out, HB2.out⟩
        · rw [if_neg he] at hst
          have HST := Lib.hid hst
          have hcz : ((C : Int) == (R : Int)) = false := by rw [beq_eq_false_iff_ne]; omega
          clear hst he
          go_wp2
          go_roundw
          case rel => exact ⟨pos + K, HI2.out, by omega, HB2.out, HST⟩
          case measure =>
            have h1 := HI.out; have h2 := HI2.out
            rw [iterPos_of h2, iterPos_of h1]
            omega
      · have hnx : ∀ ty, (Instr.next (.pointer (some ⟨w.heap.size, 0, none⟩)) true ty).run Tryz.prog wr = _ := fun ty => Lib.run_next_end_at wr w.heap.size q pos ty hit hp
        have hst := HP.out
        rw [ziF, dif_neg hp] at hst
        have HST := Lib.hid hst
        have HB2 := Lib.hid hbw
        clear hbw hst
        go_wp2
        go_ret
        exact ⟨congrArg (fun z => Ending.returned (.int .i64 z)) HST.out, HB2.out⟩

theorem zi_rune (q : ByteArray) (R : Nat) (w : World) (hR : RuneR R) (hq : q.size ≤ 100) (Z : Int) (hZ : ziF q R 0 = Z) :
    Calls Tryz.prog 139 #[.string q, .int .i32 (R : Int)] w fun e w' => e = .returned (.int .i64 Z) ∧ Below w.heap.size w w' := by
  by_cases h : R = 65533
  · exact zi_fffd q R w h hq Z hZ
  · exact zi_any q R w ⟨hR.1, hR.2, h⟩ hq Z hZ
theorem zi_eof (q : ByteArray) (w : World) :
    Calls Tryz.prog 139 #[.string q, .int .i32 (-1)] w fun e w' => e = .returned (.int .i64 (-1)) ∧ w = w' := by
  go_enter Tryz.func139, Tryz.ntmps139
  go_wp2
  go_ret
  exact ⟨rfl, rfl⟩
theorem zc_eof (q : ByteArray) (w : World) :
    Calls Tryz.prog 126 #[.string q, .int .i32 (-1)] w fun e w' => e = .returned (.bool false) ∧ w = w' := by
  have HZ := Lib.hid (zi_eof q w)
  go_enter Tryz.func126, Tryz.ntmps126
  go_wp2_with (go_at_call 139; (with_reducible refine HZ.out.mono ?_); rintro e w1 ⟨rfl, rfl⟩; dsimp only)
  go_ret
  exact ⟨rfl, rfl⟩
theorem zc_rune (q : ByteArray) (R : Nat) (w : World) (hR : RuneR R) (hq : q.size ≤ 100) (b : Bool) (hb : decide (0 ≤ ziF q R 0) = b) :
    Calls Tryz.prog 126 #[.string q, .int .i32 (R : Int)] w fun e w' => e = .returned (.bool b) ∧ Below w.heap.size w w' := by
  obtain ⟨Z, hZ⟩ : ∃ Z, ziF q R 0 = Z := ⟨_, rfl⟩
  have HZ := Lib.hid (zi_rune q R w hR hq Z hZ)
  rw [hZ] at hb
  clear hZ
  by_cases h : 0 ≤ Z
  · obtain rfl : b = true := by rw [← hb]; simp [h]
    clear hb
    go_enter Tryz.func126, Tryz.ntmps126
    go_wp2_with (go_at_call 139; (with_reducible refine HZ.out.mono ?_); rintro e w1 ⟨rfl, hb1⟩; dsimp only)
    go_ret
    exact ⟨rfl, hb1⟩
  · obtain rfl : b = false := by rw [← hb]; simp [h]
    clear hb
    go_enter Tryz.func126, Tryz.ntmps126
    go_wp2_with (go_at_call 139; (with_reducible refine HZ.out.mono ?_); rintro e w1 ⟨rfl, hb1⟩; dsimp only)
    go_ret
    exact ⟨rfl, hb1⟩
theorem get_bang (q : ByteArray) (p : Nat) (h : p < q.size) : q.get! p = q[p]'h := by
  unfold ByteArray.get!
  exact getElem!_pos q.data p h
theorem dec_asc (q : ByteArray) (p : Nat) (h : p < q.size) (ha : (q[p]'h).toNat < 128) : Utf8.decode q p = ((q[p]'h).toNat, 1) := by
  rw [Lib.decode_at]
  have e : (q.get! p).toNat = (q[p]'h).toNat := by rw [get_bang q p h]
  rw [e]
  exact decodeN_ascii' _ _ _ _ _ ha
/-- a byte of that number stands in a text -/
def hasB (l : List UInt8) (R : Nat) : Bool := l.any fun b => b.toNat == R
theorem ziF_has (q : ByteArray) (R : Nat) (ha : ∀ b ∈ q.data.toList, b.toNat < 128) : ∀ pos, decide (0 ≤ ziF q R pos) = hasB (q.data.toList.drop pos) R := by
  intro pos
  fun_induction ziF q R pos with
  | case1 pos h he =>
    have hl : pos < q.data.toList.length := by rw [← Lib.size_eq]; exact h
    have hd := dec_asc q pos h (ha _ (by show q.data[pos] ∈ _; simp))
    rw [List.drop_eq_getElem_cons hl]
    unfold hasB
    rw [List.any_cons]
    rw [hd] at he
    have : (q.data.toList[pos]).toNat = R := he
    rw [this]
    simp
  | case2 pos h he ih =>
    have hl : pos < q.data.toList.length := by rw [← Lib.size_eq]; exact h
    have hd := dec_asc q pos h (ha _ (by show q.data[pos] ∈ _; simp))
    rw [hd] at ih he ⊢
    rw [ih, List.drop_eq_getElem_cons hl]
    unfold hasB
    rw [List.any_cons]
    have : ((q.data.toList[pos]).toNat == R) = false := by rw [beq_eq_false_iff_ne]; exact he
    rw [this, Bool.false_or]
  | case3 pos h =>
    rw [List.drop_eq_nil_of_le (by rw [← Lib.size_eq]; omega)]
    rfl
theorem z_isWs (R : Nat) (w : World) (hR : RuneR R) (b : Bool) (hb : wsR R = b) :
    Calls Tryz.prog 126 #[.string ⟨#[32, 12, 9]⟩, .int .i32 (R : Int)] w fun e w' => e = .returned (.bool b) ∧ Below w.heap.size w w' := by
  refine zc_rune _ R w hR (by decide) b ?_
  rw [ziF_has _ R (by decide), ← hb]
  show hasB [32, 12, 9] R = _
  unfold hasB wsR
  rw [Bool.eq_iff_iff]
  simp
  omega
theorem isWs_at (R : Nat) (w : World) (hR : RuneR R) (b : Bool) (hb : wsR R = b) :
    Calls Tryz.prog 121 #[.int .i32 (R : Int)] w fun e w' => e = .returned (.bool b) ∧ Below w.heap.size w w' := by
  have HZ := Lib.hid (z_isWs R w hR b hb)
  clear hb
  go_enter Tryz.func121, Tryz.ntmps121
  go_wp2_with (go_at_call 126; (with_reducible refine HZ.out.mono ?_); rintro e w1 ⟨rfl, hb1⟩; dsimp only)
  go_ret
  exact ⟨rfl, hb1⟩
theorem isWs_eof (w : World) :
    Calls Tryz.prog 121 #[.int .i32 (-1)] w fun e w' => e = .returned (.bool false) ∧ w = w' := by
  have HZ := Lib.hid (zc_eof ⟨#[32, 12, 9]⟩ w)
  go_enter Tryz.func121, Tryz.ntmps121
  go_wp2_with (go_at_call 126; (with_reducible refine HZ.out.mono ?_); rintro e w1 ⟨rfl, rfl⟩; dsimp only)
  go_ret
  exact ⟨rfl, rfl⟩
theorem z_isEnd (R : Nat) (w : World) (hR : RuneR R) (b : Bool) (hb : endK R = b) :
    Calls Tryz.prog 126 #[.string ⟨#[32, 12, 9, 13, 10, 58, 61]⟩, .int .i32 (R : Int)] w fun e w' => e = .returned (.bool b) ∧ Below w.heap.size w w' := by
  refine zc_rune _ R w hR (by decide) b ?_
  rw [ziF_has _ R (by decide), ← hb]
  show hasB [32, 12, 9, 13, 10, 58, 61] R = _
  unfold hasB endK
  rw [Bool.eq_iff_iff]
  simp
  omega
theorem isEnd_at (R : Nat) (w : World) (hR : RuneR R) (b : Bool) (hb : endK R = b) :
    Calls Tryz.prog 135 #[.int .i32 (R : Int)] w fun e w' => e = .returned (.bool b) ∧ Below w.heap.size w w' := by
  have HZ := Lib.hid (z_isEnd R w hR b hb)
  clear hb
  go_enter Tryz.func135, Tryz.ntmps135
  go_wp2_with (go_at_call 126; (with_reducible refine HZ.out.mono ?_); rintro e w1 ⟨rfl, hb1⟩; dsimp only)
  go_ret
  exact ⟨rfl, hb1⟩
theorem isEnd_eof (w : World) :
    Calls Tryz.prog 135 #[.int .i32 (-1)] w fun e w' => e = .returned (.bool false) ∧ w = w' := by
  have HZ := Lib.hid (zc_eof ⟨#[32, 12, 9, 13, 10, 58, 61]⟩ w)
  go_enter Tryz.func135, Tryz.ntmps135
  go_wp2_with (go_at_call 126; (with_reducible refine HZ.out.mono ?_); rintro e w1 ⟨rfl, rfl⟩; dsimp only)
  go_ret
  exact ⟨rfl, rfl⟩
theorem z_isEscC (R : Nat) (w : World) (hR : RuneR R) (b : Bool) (hb : escC R = b) :
    Calls Tryz.prog 126 #[.string ⟨#[32, 58, 61, 102, 110, 114, 116]⟩, .int .i32 (R : Int)] w fun e w' => e = .returned (.bool b) ∧ Below w.heap.size w w' := by
  refine zc_rune _ R w hR (by decide) b ?_
  rw [ziF_has _ R (by decide), ← hb]
  show hasB [32, 58, 61, 102, 110, 114, 116] R = _
  unfold hasB escC
  rw [Bool.eq_iff_iff]
  simp
  omega
theorem isEscC_at (R : Nat) (w : World) (hR : RuneR R) (b : Bool) (hb : escC R = b) :
    Calls Tryz.prog 151 #[.int .i32 (R : Int)] w fun e w' => e = .returned (.bool b) ∧ Below w.heap.size w w' := by
  have HZ := Lib.hid (z_isEscC R w hR b hb)
  clear hb
  go_enter Tryz.func151, Tryz.ntmps151
  go_wp2_with (go_at_call 126; (with_reducible refine HZ.out.mono ?_); rintro e w1 ⟨rfl, hb1⟩; dsimp only)
  go_ret
  exact ⟨rfl, hb1⟩
theorem isEscC_eof (w : World) :
    Calls Tryz.prog 151 #[.int .i32 (-1)] w fun e w' => e = .returned (.bool false) ∧ w = w' := by
  have HZ := Lib.hid (zc_eof ⟨#[32, 58, 61, 102, 110, 114, 116]⟩ w)
  go_enter Tryz.func151, Tryz.ntmps151
  go_wp2_with (go_at_call 126; (with_reducible refine HZ.out.mono ?_); rintro e w1 ⟨rfl, rfl⟩; dsimp only)
  go_ret
  exact ⟨rfl, rfl⟩
def sepR (R : Nat) : Bool := R == 58 || R == 61
theorem z_sep (R : Nat) (w : World) (hR : RuneR R) (b : Bool) (hb : sepR R = b) :
    Calls Tryz.prog 126 #[.string ⟨#[58, 61]⟩, .int .i32 (R : Int)] w fun e w' => e = .returned (.bool b) ∧ Below w.heap.size w w' := by
  refine zc_rune _ R w hR (by decide) b ?_
  rw [ziF_has _ R (by decide), ← hb]
  show hasB [58, 61] R = _
  unfold hasB sepR
  rw [Bool.eq_iff_iff]
  simp
  omega
def hexB (R : Nat) : Bool := (hexR R).isSome
theorem isEOF_at (R : Nat) (w : World) :
    Calls Tryz.prog 115 #[.int .i32 (R : Int)] w fun e w' => e = .returned (.bool false) ∧ w = w' := by
  have h : ((R : Int) == -1) = false := by rw [beq_eq_false_iff_ne]; omega
  go_enter Tryz.func115, Tryz.ntmps115
  go_wp2
  go_ret
  exact ⟨rfl, rfl⟩
theorem isEOF_eof (w : World) :
    Calls Tryz.prog 115 #[.int .i32 (-1)] w fun e w' => e = .returned (.bool true) ∧ w = w' := by
  go_enter Tryz.func115, Tryz.ntmps115
  go_wp2
  go_ret
  exact ⟨rfl, rfl⟩
theorem isEOL_at (R : Nat) (w : World) (b : Bool) (hb : eolR R = b) :
    Calls Tryz.prog 117 #[.int .i32 (R : Int)] w fun e w' => e = .returned (.bool b) ∧ w = w' := by
  by_cases h0 : R = 10
  · obtain rfl : b = true := by rw [← hb]; subst h0; rfl
    have h : ((R : Int) == 10) = true := by rw [beq_iff_eq]; omega
    clear hb h0
    go_enter Tryz.func117, Tryz.ntmps117
    go_wp2
    go_ret
    exact ⟨rfl, rfl⟩
  · have h : ((R : Int) == 10) = false := by rw [beq_eq_false_iff_ne]; omega
    have h2 : ((R : Int) == 13) = b := by rw [← hb, Bool.eq_iff_iff]; simp [eolR]; omega
    clear hb h0
    go_enter Tryz.func117, Tryz.ntmps117
    go_wp2
    go_ret
    exact ⟨rfl, rfl⟩
theorem isEOL_eof (w : World) :
    Calls Tryz.prog 117 #[.int .i32 (-1)] w fun e w' => e = .returned (.bool false) ∧ w = w' := by
  go_enter Tryz.func117, Tryz.ntmps117
  go_wp2
  go_ret
  exact ⟨rfl, rfl⟩
theorem isCom_at (R : Nat) (w : World) (b : Bool) (hb : (R == 35 || R == 33) = b) :
    Calls Tryz.prog 119 #[.int .i32 (R : Int)] w fun e w' => e = .returned (.bool b) ∧ w = w' := by
  by_cases h0 : R = 35
  · obtain rfl : b = true := by rw [← hb]; subst h0; rfl
    have h : ((R : Int) == 35) = true := by rw [beq_iff_eq]; omega
    clear hb h0
    go_enter Tryz.func119, Tryz.ntmps119
    go_wp2
    go_ret
    exact ⟨rfl, rfl⟩
  · have h : ((R : Int) == 35) = false := by rw [beq_eq_false_iff_ne]; omega
    have h2 : ((R : Int) == 33) = b := by rw [← hb, Bool.eq_iff_iff]; simp; omega
    clear hb h0
    go_enter Tryz.func119, Tryz.ntmps119
    go_wp2
    go_ret
    exact ⟨rfl, rfl⟩
theorem isCom_eof (w : World) :
    Calls Tryz.prog 119 #[.int .i32 (-1)] w fun e w' => e = .returned (.bool false) ∧ w = w' := by
  go_enter Tryz.func119, Tryz.ntmps119
  go_wp2
  go_ret
  exact ⟨rfl, rfl⟩
theorem isEsc_at (R : Nat) (w : World) (b : Bool) (hb : (R == 92) = b) :
    Calls Tryz.prog 132 #[.int .i32 (R : Int)] w fun e w' => e = .returned (.bool b) ∧ w = w' := by
  have h : ((R : Int) == 92) = b := by rw [← hb, Bool.eq_iff_iff]; simp; omega
  clear hb
  go_enter Tryz.func132, Tryz.ntmps132
  go_wp2
  go_ret
  exact ⟨rfl, rfl⟩
theorem isEsc_eof (w : World) :
    Calls Tryz.prog 132 #[.int .i32 (-1)] w fun e w' => e = .returned (.bool false) ∧ w = w' := by
  go_enter Tryz.func132, Tryz.ntmps132
  go_wp2
  go_ret
  exact ⟨rfl, rfl⟩
theorem atLit_at (R : Nat) (w : World) (b : Bool) (hb : (R == 117) = b) :
    Calls Tryz.prog 153 #[.int .i32 (R : Int)] w fun e w' => e = .returned (.bool b) ∧ w = w' := by
  have h : ((R : Int) == 117) = b := by rw [← hb, Bool.eq_iff_iff]; simp; omega
  clear hb
  go_enter Tryz.func153, Tryz.ntmps153
  go_wp2
  go_ret
  exact ⟨rfl, rfl⟩
theorem atLit_eof (w : World) :
    Calls Tryz.prog 153 #[.int .i32 (-1)] w fun e w' => e = .returned (.bool false) ∧ w = w' := by
  go_enter Tryz.func153, Tryz.ntmps153
  go_wp2
  go_ret
  exact ⟨rfl, rfl⟩
theorem decEsc_at (R : Nat) (w : World) :
    Calls Tryz.prog 152 #[.int .i32 (R : Int)] w fun e w' => e = .returned (.int .i32 (decEsc R : Int)) ∧ w = w' := by
  unfold decEsc
  by_cases h102 : R = 102
  · rw [if_pos h102]
    subst h102
    go_enter Tryz.func152, Tryz.ntmps152
    go_wp2
    go_ret
    exact ⟨rfl, rfl⟩
  rw [if_neg h102]
  have q102 : ((R : Int) == 102) = false := by rw [beq_eq_false_iff_ne]; omega
  by_cases h110 : R = 110
  · rw [if_pos h110]
    subst h110
    go_enter Tryz.func152, Tryz.ntmps152
    go_wp2
    go_ret
    exact ⟨rfl, rfl⟩
  rw [if_neg h110]
  have q110 : ((R : Int) == 110) = false := by rw [beq_eq_false_iff_ne]; omega
  by_cases h114 : R = 114
  · rw [if_pos h114]
    subst h114
    go_enter Tryz.func152, Tryz.ntmps152
    go_wp2
    go_ret
    exact ⟨rfl, rfl⟩
  rw [if_neg h114]
  have q114 : ((R : Int) == 114) = false := by rw [beq_eq_false_iff_ne]; omega
  by_cases h116 : R = 116
  · rw [if_pos h116]
    subst h116
    go_enter Tryz.func152, Tryz.ntmps152
    go_wp2
    go_ret
    exact ⟨rfl, rfl⟩
  rw [if_neg h116]
  have q116 : ((R : Int) == 116) = false := by rw [beq_eq_false_iff_ne]; omega
  go_enter Tryz.func152, Tryz.ntmps152
  go_wp2
  go_ret
  exact ⟨rfl, rfl⟩
end Go.Proofs.YtackciefmdiphaaGreatDoor
