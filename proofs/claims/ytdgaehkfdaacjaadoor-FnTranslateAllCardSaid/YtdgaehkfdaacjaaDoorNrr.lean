/- The walk of nextRuneRange. -/
import Derived.Test.YtdgaehkfdaacjaaDoorTrLaw
import Derived.Test.YtdgaehkfdaacjaaDoorDec
set_option linter.unusedVariables false
namespace Go.Proofs.YtdgaehkfdaacjaaDoor
open Go.RowKit Plain

theorem rns_step (t : ByteArray) (R K : Nat) (h : Head t R K) : rnsL t.data.toList = R :: rnsL (t.extract K t.size).data.toList := by
  unfold rnsL
  rw [segs_rest t R K h, List.map_cons, h.run]
theorem rns_empty (t : ByteArray) (h : ¬ 0 < t.size) : rnsL t.data.toList = [] := by
  unfold rnsL
  rw [segs_empty t h]
  rfl
/-- what nextRuneRange returns -/
def NrrPost (n : Nat) (x : List Nat × Int × Int × Int) (w : World) (e : Ending) (w' : World) : Prop :=
  ∃ t : ByteArray, e = .returned (.tuple #[.string t, .int .i32 x.2.1, .int .i32 x.2.2.1, .int .i32 x.2.2.2]) ∧ rnsL t.data.toList = x.1 ∧ t.size ≤ n ∧ Below w.heap.size w w'
theorem nrr_cons (r : Nat) (p : List Nat) (last : Int) (esc isR : Bool) (N : List Nat × Int × Int × Int) (h : nrrG (r :: p) last esc isR = N) :
    (esc = false → r = 92 → nrrG p last true isR = N) ∧ (esc = false → r = 45 → last = -1 → nrrG p last false isR = N) ∧ (esc = false → r = 45 → last ≠ -1 → nrrG p last false true = N) ∧
    ((esc = true ∨ r ≠ 92 ∧ r ≠ 45) → last = -1 → nrrG p r false isR = N) ∧ ((esc = true ∨ r ≠ 92 ∧ r ≠ 45) → last ≠ -1 → isR = true → last = r → nrrG p last false false = N) ∧
    ((esc = true ∨ r ≠ 92 ∧ r ≠ 45) → last ≠ -1 → isR = false → (p, last, (r : Int), (0 : Int)) = N) ∧
    ((esc = true ∨ r ≠ 92 ∧ r ≠ 45) → last ≠ -1 → isR = true → last < r → (p, last, (r : Int), (1 : Int)) = N) ∧
    ((esc = true ∨ r ≠ 92 ∧ r ≠ 45) → last ≠ -1 → isR = true → ¬ last < r → last ≠ r → (p, last, (r : Int), (-1 : Int)) = N) := by
  subst h
  have k : (esc = true ∨ r ≠ 92 ∧ r ≠ 45) → ¬ (esc = false ∧ r = 92) ∧ ¬ (esc = false ∧ r = 45) := fun h => by
    rcases h with h | h
    · subst h; simp
    · exact ⟨fun x => h.1 x.2, fun x => h.2 x.2⟩
  refine ⟨fun h1 h2 => ?_, fun h1 h2 h3 => ?_, fun h1 h2 h3 => ?_, fun h1 h2 => ?_, fun h1 h2 h3 h4 => ?_, fun h1 h2 h3 => ?_, fun h1 h2 h3 h4 => ?_, fun h1 h2 h3 h4 h5 => ?_⟩
  · conv => rhs; unfold nrrG
    rw [if_pos ⟨h1, h2⟩]
  · conv => rhs; unfold nrrG
    rw [if_neg (fun x => by omega), if_pos ⟨h1, h2⟩, if_pos h3]
  · conv => rhs; unfold nrrG
    rw [if_neg (fun x => by omega), if_pos ⟨h1, h2⟩, if_neg h3]
  · conv => rhs; unfold nrrG
    rw [if_neg (k h1).1, if_neg (k h1).2, if_pos h2]
  · conv => rhs; unfold nrrG
    rw [if_neg (k h1).1, if_neg (k h1).2, if_neg h2, if_pos ⟨h3, h4⟩]
  · conv => rhs; unfold nrrG
    rw [if_neg (k h1).1, if_neg (k h1).2, if_neg h2, if_neg (fun x => by rw [h3] at x; cases x.1), if_neg (by simp [h3])]
  · conv => rhs; unfold nrrG
    rw [if_neg (k h1).1, if_neg (k h1).2, if_neg h2, if_neg (fun x => by omega), if_pos h3, if_pos h4]
  · conv => rhs; unfold nrrG
    rw [if_neg (k h1).1, if_neg (k h1).2, if_neg h2, if_neg (fun x => h5 x.2), if_pos h3, if_neg h4]

set_option maxHeartbeats 4000000 in
set_option maxRecDepth 100000 in
theorem nrr_any (s : ByteArray) (l0 : Int) (w : World) (hT : Tabs w) (hs : s.size ≤ 140737488355328) (h0 : -1 ≤ l0) (h1 : l0 ≤ 1114111) :
    Calls Tryd.prog 40 #[.string s, .int .i32 l0] w (NrrPost s.size (nrr (rnsL s.data.toList) l0) w) := by
  obtain ⟨N, hN⟩ : ∃ N, nrr (rnsL s.data.toList) l0 = N := ⟨_, rfl⟩
  rw [hN]
  have HN := Lib.hid hN
  clear hN
  go_enter Tryd.func40, Tryd.ntmps40
  go_wp2
  go_loopw [1, 4, 7, 10, 11] (fun lv tv zv ev iv wr => ∃ (t : ByteArray) (last : Int) (esc isR : Bool), zv = .int .i32 0 ∧ lv = .int .i32 last ∧ tv = .string t ∧ ev = .bool esc ∧ iv = .bool isR ∧ -1 ≤ last ∧ last ≤ 1114111 ∧ nrrG (rnsL t.data.toList) last esc isR = N ∧ t.size ≤ s.size ∧ Below w.heap.size w wr) (fun _ tv _ _ _ _ => match tv with | .string t => t.size | _ => 0)
  case atStart => exact ⟨s, l0, false, false, rfl, rfl, rfl, rfl, rfl, h0, h1, HN.out, Nat.le_refl _, Below.refl _ _⟩
  case round =>
    obtain ⟨t, last, esc, isR, rfl, rfl, rfl, rfl, rfl, hl0, hl1, hn, hts, hbw⟩ := hrel
    have hTr := hT.below hbw
    by_cases ht0 : 0 < t.size
    · have htz : (0 : Int) < (t.size : Int) := by omega
      obtain ⟨R, K, hh⟩ := head_of t ht0
      have HH := Lib.hid hh
      have hR1 : R ≤ 1114111 := hh.rune
      have hK1 : 1 ≤ K := hh.pos
      have hK2 : K ≤ t.size := hh.le
      rw [rns_step t R K hh] at hn
      have HC := Lib.hid (nrr_cons _ _ _ _ _ _ hn)
      have HRS := Lib.hid (rest_of t K).2
      clear hn hh
      cases esc
      · by_cases h92 : R = 92
        · have h92z : ((R : Int) == 92) = true := by rw [beq_iff_eq]; omega
          have HS := Lib.hid (HC.out.1 rfl h92)
          go_wp2_with (go_at_call 41; (with_reducible refine (decode_any t _ hTr R K HH).mono ?_); rintro e w1 ⟨rfl, hb1⟩; dsimp only)
          go_roundw
          case rel => exact ⟨_, last, true, isR, rfl, rfl, rfl, rfl, rfl, hl0, hl1, HS.out, by rw [HRS.out]; omega, bthen hbw hb1⟩
          case measure =>
            have hrs := HRS.out
            simp only [hrs]
            omega
        · have h92z : ((R : Int) == 92) = false := by rw [beq_eq_false_iff_ne]; omega
          by_cases h45 : R = 45
          · have h92n : R ≠ 92 := h92
            have h45z : ((R : Int) == 45) = true := by rw [beq_iff_eq]; omega
            by_cases hl : last = -1
            · subst hl
              go_wp2_with (go_at_call 41; (with_reducible refine (decode_any t _ hTr R K HH).mono ?_); rintro e w1 ⟨rfl, hb1⟩; dsimp only)
              go_roundw
              case rel => exact ⟨_, (-1), false, isR, rfl, rfl, rfl, rfl, rfl, by omega, by omega, HC.out.2.1 rfl h45 rfl, by rw [HRS.out]; omega, bthen hbw hb1⟩
              case measure =>
                have hrs := HRS.out
                simp only [hrs]
                omega
            · have hlz : (last == -1) = false := by rw [beq_eq_false_iff_ne]; exact hl
              have HS := Lib.hid (HC.out.2.2.1 rfl h45 hl)
              clear hl
              go_wp2_with (go_at_call 41; (with_reducible refine (decode_any t _ hTr R K HH).mono ?_); rintro e w1 ⟨rfl, hb1⟩; dsimp only)
              go_roundw
              case rel => exact ⟨_, last, false, true, rfl, rfl, rfl, rfl, rfl, hl0, hl1, HS.out, by rw [HRS.out]; omega, bthen hbw hb1⟩
              case measure =>
                have hrs := HRS.out
                simp only [hrs]
                omega
          · have h45z : ((R : Int) == 45) = false := by rw [beq_eq_false_iff_ne]; omega
            by_cases hl : last = -1
            · subst hl
              go_wp2_with (go_at_call 41; (with_reducible refine (decode_any t _ hTr R K HH).mono ?_); rintro e w1 ⟨rfl, hb1⟩; dsimp only)
              go_roundw
              case rel => exact ⟨_, R, false, isR, rfl, rfl, rfl, rfl, rfl, by omega, by omega, HC.out.2.2.2.1 (.inr ⟨h92, h45⟩) rfl, by rw [HRS.out]; omega, bthen hbw hb1⟩
              case measure =>
                have hrs := HRS.out
                simp only [hrs]
                omega
            · have hlz : (last == -1) = false := by rw [beq_eq_false_iff_ne]; exact hl
              have hlz' : (last != -1) = true := by rw [bne_iff_ne]; exact hl
              cases isR
              · have HF := Lib.hid (HC.out.2.2.2.2.2.1 (.inr ⟨h92, h45⟩) hl rfl)
                clear hl
                go_wp2_with (go_at_call 41; (with_reducible refine (decode_any t _ hTr R K HH).mono ?_); rintro e w1 ⟨rfl, hb1⟩; dsimp only)
                exact bodyPost_ret (v := .tuple #[.string (t.extract K t.size), .int .i32 last, .int .i32 R, .int .i32 0]) (by simp [results, Tryd.results40, go_sem]) rfl ⟨t.extract K t.size, by rw [← HF.out], by rw [← HF.out], by rw [HRS.out]; omega, bthen hbw hb1⟩
              · by_cases hlr : last = (R : Int)
                · have hq : (last == (R : Int)) = true := by rw [beq_iff_eq]; exact hlr
                  have HS := Lib.hid (HC.out.2.2.2.2.1 (.inr ⟨h92, h45⟩) hl rfl hlr)
                  clear hl hlr
                  go_wp2_with (go_at_call 41; (with_reducible refine (decode_any t _ hTr R K HH).mono ?_); rintro e w1 ⟨rfl, hb1⟩; dsimp only)
                  go_roundw
                  case rel => exact ⟨_, last, false, false, rfl, rfl, rfl, rfl, rfl, hl0, hl1, HS.out, by rw [HRS.out]; omega, bthen hbw hb1⟩
                  case measure =>
                    have hrs := HRS.out
                    simp only [hrs]
                    omega
                · have hq : (last == (R : Int)) = false := by rw [beq_eq_false_iff_ne]; exact hlr
                  by_cases hlt : last < (R : Int)
                  · have HF := Lib.hid (HC.out.2.2.2.2.2.2.1 (.inr ⟨h92, h45⟩) hl rfl hlt)
                    clear hlr
                    clear hl
                    go_wp2_with (go_at_call 41; (with_reducible refine (decode_any t _ hTr R K HH).mono ?_); rintro e w1 ⟨rfl, hb1⟩; dsimp only)
                    exact bodyPost_ret (v := .tuple #[.string (t.extract K t.size), .int .i32 last, .int .i32 R, .int .i32 1]) (by simp [results, Tryd.results40, go_sem]) rfl ⟨t.extract K t.size, by rw [← HF.out], by rw [← HF.out], by rw [HRS.out]; omega, bthen hbw hb1⟩
                  · have HF := Lib.hid (HC.out.2.2.2.2.2.2.2 (.inr ⟨h92, h45⟩) hl rfl hlt hlr)
                    clear hlr
                    clear hl
                    go_wp2_with (go_at_call 41; (with_reducible refine (decode_any t _ hTr R K HH).mono ?_); rintro e w1 ⟨rfl, hb1⟩; dsimp only)
                    exact bodyPost_ret (v := .tuple #[.string (t.extract K t.size), .int .i32 last, .int .i32 R, .int .i32 (-1)]) (by simp [results, Tryd.results40, go_sem]) rfl ⟨t.extract K t.size, by rw [← HF.out], by rw [← HF.out], by rw [HRS.out]; omega, bthen hbw hb1⟩
      · skip
        by_cases hl : last = -1
        · subst hl
          go_wp2_with (go_at_call 41; (with_reducible refine (decode_any t _ hTr R K HH).mono ?_); rintro e w1 ⟨rfl, hb1⟩; dsimp only)
          go_roundw
          case rel => exact ⟨_, R, false, isR, rfl, rfl, rfl, rfl, rfl, by omega, by omega, HC.out.2.2.2.1 (.inl rfl) rfl, by rw [HRS.out]; omega, bthen hbw hb1⟩
          case measure =>
            have hrs := HRS.out
            simp only [hrs]
            omega
        · have hlz : (last == -1) = false := by rw [beq_eq_false_iff_ne]; exact hl
          have hlz' : (last != -1) = true := by rw [bne_iff_ne]; exact hl
          cases isR
          · have HF := Lib.hid (HC.out.2.2.2.2.2.1 (.inl rfl) hl rfl)
            clear hl
            go_wp2_with (go_at_call 41; (with_reducible refine (decode_any t _ hTr R K HH).mono ?_); rintro e w1 ⟨rfl, hb1⟩; dsimp only)
            exact bodyPost_ret (v := .tuple #[.string (t.extract K t.size), .int .i32 last, .int .i32 R, .int .i32 0]) (by simp [results, Tryd.results40, go_sem]) rfl ⟨t.extract K t.size, by rw [← HF.out], by rw [← HF.out], by rw [HRS.out]; omega, bthen hbw hb1⟩
          · by_cases hlr : last = (R : Int)
            · have hq : (last == (R : Int)) = true := by rw [beq_iff_eq]; exact hlr
              have HS := Lib.hid (HC.out.2.2.2.2.1 (.inl rfl) hl rfl hlr)
              clear hl hlr
              go_wp2_with (go_at_call 41; (with_reducible refine (decode_any t _ hTr R K HH).mono ?_); rintro e w1 ⟨rfl, hb1⟩; dsimp only)
              go_roundw
              case rel => exact ⟨_, last, false, false, rfl, rfl, rfl, rfl, rfl, hl0, hl1, HS.out, by rw [HRS.out]; omega, bthen hbw hb1⟩
              case measure =>
                have hrs := HRS.out
                simp only [hrs]
                omega
            · have hq : (last == (R : Int)) = false := by rw [beq_eq_false_iff_ne]; exact hlr
              by_cases hlt : last < (R : Int)
              · have HF := Lib.hid (HC.out.2.2.2.2.2.2.1 (.inl rfl) hl rfl hlt)
                clear hlr
                clear hl
                go_wp2_with (go_at_call 41; (with_reducible refine (decode_any t _ hTr R K HH).mono ?_); rintro e w1 ⟨rfl, hb1⟩; dsimp only)
                exact bodyPost_ret (v := .tuple #[.string (t.extract K t.size), .int .i32 last, .int .i32 R, .int .i32 1]) (by simp [results, Tryd.results40, go_sem]) rfl ⟨t.extract K t.size, by rw [← HF.out], by rw [← HF.out], by rw [HRS.out]; omega, bthen hbw hb1⟩
              · have HF := Lib.hid (HC.out.2.2.2.2.2.2.2 (.inl rfl) hl rfl hlt hlr)
                clear hlr
                clear hl
                go_wp2_with (go_at_call 41; (with_reducible refine (decode_any t _ hTr R K HH).mono ?_); rintro e w1 ⟨rfl, hb1⟩; dsimp only)
                exact bodyPost_ret (v := .tuple #[.string (t.extract K t.size), .int .i32 last, .int .i32 R, .int .i32 (-1)]) (by simp [results, Tryd.results40, go_sem]) rfl ⟨t.extract K t.size, by rw [← HF.out], by rw [← HF.out], by rw [HRS.out]; omega, bthen hbw hb1⟩
    · have htz : ¬ (0 : Int) < (t.size : Int) := by omega
      rw [rns_empty t ht0] at hn
      have HF := Lib.hid hn
      clear hn
      by_cases hl : last = -1
      · subst hl
        go_wp2
        exact bodyPost_ret (v := .tuple #[.string t, .int .i32 65533, .int .i32 (-1), .int .i32 0]) (by simp [results, Tryd.results40, go_sem]) rfl ⟨t, by rw [← HF.out]; rfl, by rw [rns_empty t ht0, ← HF.out]; rfl, hts, hbw⟩
      · have hlz : (last == -1) = false := by rw [beq_eq_false_iff_ne]; exact hl
        go_wp2
        exact bodyPost_ret (v := .tuple #[.string t, .int .i32 last, .int .i32 (-1), .int .i32 0]) (by simp [results, Tryd.results40, go_sem]) rfl ⟨t, by rw [← HF.out]; simp [nrrG, hl], by rw [rns_empty t ht0, ← HF.out]; rfl, hts, hbw⟩
end Go.Proofs.YtdgaehkfdaacjaaDoor
