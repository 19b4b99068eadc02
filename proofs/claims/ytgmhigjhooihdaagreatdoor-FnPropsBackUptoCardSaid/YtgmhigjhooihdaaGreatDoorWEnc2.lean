/- The walks of the properties' encodeIso and encode at small texts. -/
import Derived.Test.YtgmhigjhooihdaaGreatDoorWEnc
set_option linter.unusedVariables false
namespace Go.Proofs.YtgmhigjhooihdaaGreatDoor
open Go.RowKit Plain

set_option maxHeartbeats 8000000 in
set_option maxRecDepth 100000 in
theorem encI_all (s q : ByteArray) (w : World) (hs : s.size ≤ 2147483647) (hq : q.size ≤ 100) (hsm : ∀ R ∈ rn s, SmallR R ∧ R ≤ 65535) (hT : WTab w) :
    Calls Tryz.prog 90 #[.string s, .string q] w fun e w' => e = .returned (.string (encT q 2 s)) ∧ Below w.heap.size w w' := by
  have HSM := Lib.hid hsm
  have HT := Lib.hid hT
  clear hsm hT
  go_enter Tryz.func90, Tryz.ntmps90
  go_wp2
  go_loopg [7, 8] s.size (fun gh vv pv wr => ∃ (v : ByteArray) (pos : Nat), vv = .string v ∧ pv = .int .i64 pos ∧ pos ≤ s.size ∧ gh = s.size - pos ∧ Hid (EncAt q 2 s v pos) ∧ v.size ≤ 6 * pos ∧ Hid (Below w.heap.size w wr) ∧ Hid (∀ R ∈ rnsOf (s.data.toList.drop pos), SmallR R ∧ R ≤ 65535))
  case atStart => exact ⟨⟨#[]⟩, 0, rfl, rfl, by omega, by omega, Lib.hid (encAt_zero q 2 s), Nat.le_refl _, Lib.hid (Below.refl _ _), Lib.hid (by rw [List.drop_zero]; exact HSM.out)⟩
  case round =>
    obtain ⟨v, pos, rfl, rfl, hp, rfl, HV, hvs, HB, HM⟩ := hrel
    by_cases hlt : pos < s.size
    · have hlz : (pos : Int) < (s.size : Int) := by omega
      obtain ⟨t, ht⟩ : ∃ t, s.extract pos s.size = t := ⟨_, rfl⟩
      have htl : t.data.toList = s.data.toList.drop pos := by rw [← ht]; exact (rest_of s pos).1
      have htz : t.size = s.size - pos := by rw [← ht]; exact (rest_of s pos).2
      obtain ⟨R, K, hh⟩ := head_of t (by omega)
      have hrn : rnsOf (s.data.toList.drop pos) = R :: rnsOf (s.data.toList.drop (pos + K)) := by
        have := rn_head hh
        rw [htl, List.drop_drop] at this
        exact this
      have HR : Hid (SmallR R) := Lib.hid (HM.out R (by rw [hrn]; exact List.mem_cons_self)).1
      have hR6 : R ≤ 65535 := (HM.out R (by rw [hrn]; exact List.mem_cons_self)).2
      have HM2 : Hid (∀ R ∈ rnsOf (s.data.toList.drop (pos + K)), SmallR R ∧ R ≤ 65535) := Lib.hid (fun x hx => HM.out x (by rw [hrn]; exact List.mem_cons_of_mem _ hx))
      have hK1 : 1 ≤ K := by have := hh.pos; omega
      have hK2 : pos + K ≤ s.size := by have := hh.le; omega
      have HST := Lib.hid (encAt_step HV.out hrn hK1)
      have hszz := encR_size q 2 (pos == 0) R
      have HH := Lib.hid hh
      have HTr : Hid (Tabs wr) := Lib.hid (HT.out.below HB.out).1
      obtain ⟨E, hE⟩ : ∃ E, encR q 2 (pos == 0) R = E := ⟨_, rfl⟩
      have HE := Lib.hid hE
      rw [hE] at HST hszz
      have hnew := HST.out.2
      have HSP : Hid (∀ W, Below w.heap.size w W → Calls Tryz.prog 103 #[.int .i32 (R : Int)] W fun e w' => e = .returned (.bool (Lib.isSpaceR R)) ∧ Below W.heap.size W w') := Lib.hid (fun W hW => by
        have := Tryz.unicode_IsSpace_any (R : Int) W (by omega) (by omega) (HT.out.below hW).2
        rw [Lib.isSpaceZ_nat] at this
        exact this)
      obtain ⟨sp, hsp⟩ : ∃ b, Lib.isSpaceR R = b := ⟨_, rfl⟩
      rw [hsp] at HSP
      have HES1 : Hid (pos = 0 ∧ sp = true → ∀ W, Calls Tryz.prog 104 #[.int .i32 (R : Int), .string ⟨#[32]⟩] W fun e w' => e = .returned (.string E) ∧ Below W.heap.size W w') := Lib.hid (fun h W => by
        have := escape_any ⟨#[32]⟩ R W HR.out (by decide)
        have e2 : E = escF ⟨#[32]⟩ R := by rw [← HE.out, h.1]; unfold encR; rw [if_pos ⟨rfl, hsp.trans h.2⟩]
        rw [e2]
        exact this)
      have HES2 : Hid (¬ (pos = 0 ∧ sp = true) ∧ R < 256 → ∀ W, Calls Tryz.prog 104 #[.int .i32 (R : Int), .string q] W fun e w' => e = .returned (.string E) ∧ Below W.heap.size W w') := Lib.hid (fun h W => by
        have := escape_any q R W HR.out hq
        have e2 : E = escF q R := by
          rw [← HE.out]
          unfold encR
          rw [if_neg (fun h9 => h.1 ⟨by have := h9.1; rw [beq_iff_eq] at this; exact this, hsp.symm.trans h9.2⟩), if_pos (.inr h.2)]
        rw [e2]
        exact this)
      have HES3 : Hid (¬ (pos = 0 ∧ sp = true) ∧ ¬ R < 256 → ∀ W, Calls Tryz.prog 105 #[.int .i32 (R : Int)] W fun e w' => e = .returned (.string E) ∧ Below W.heap.size W w') := Lib.hid (fun h W => by
        have := hex4_any R W hR6
        have e2 : E = hex4F R := by
          rw [← HE.out]
          unfold encR
          rw [if_neg (fun h9 => h.1 ⟨by have := h9.1; rw [beq_iff_eq] at this; exact this, hsp.symm.trans h9.2⟩), if_neg (fun h9 => by rcases h9 with h9 | h9; exact absurd h9 (by decide); exact h.2 h9)]
        rw [e2]
        exact this)
      clear hh htl htz hrn hE hsp
      by_cases hp0 : pos = 0
      · have hpz : ((pos : Int) == 0) = true := by rw [beq_iff_eq]; omega
        have HP0 := Lib.hid hp0
        clear hp0
        cases sp with
        | true =>
          go_wp2_with (first
            | (go_at_call 102; (with_reducible refine (decode_any t _ HTr.out R K HH).mono ?_); rintro e w1 ⟨rfl, hb1⟩; have HB1 : Hid (Below w.heap.size w w1) := Lib.hid (bthen HB.out hb1); clear hb1; dsimp only)
            | (go_at_call 103; (with_reducible refine (HSP.out _ HB1.out).mono ?_); rintro e w2 ⟨rfl, hb2⟩; have HB2 : Hid (Below w.heap.size w w2) := Lib.hid (bthen HB1.out hb2); clear hb2; dsimp only)
            | (go_at_call 104; (with_reducible refine (HES1.out ⟨HP0.out, rfl⟩ _).mono ?_); rintro e w3 ⟨rfl, hb3⟩; have HB3 : Hid (Below w.heap.size w w3) := Lib.hid (bthen HB2.out hb3); clear hb3; dsimp only))
          go_roundg (s.size - (pos + K))
          case measure => omega
          case rel => exact ⟨v ++ E, pos + K, rfl, by go_num, by omega, rfl, HST, hnew, HB3, HM2⟩
        | false =>
          by_cases h256 : R < 256
          · have hrz : (R : Int) < 256 := by omega
            have H256 := Lib.hid h256
            clear h256
            go_wp2_with (first
              | (go_at_call 102; (with_reducible refine (decode_any t _ HTr.out R K HH).mono ?_); rintro e w1 ⟨rfl, hb1⟩; have HB1 : Hid (Below w.heap.size w w1) := Lib.hid (bthen HB.out hb1); clear hb1; dsimp only)
              | (go_at_call 103; (with_reducible refine (HSP.out _ HB1.out).mono ?_); rintro e w2 ⟨rfl, hb2⟩; have HB2 : Hid (Below w.heap.size w w2) := Lib.hid (bthen HB1.out hb2); clear hb2; dsimp only)
              | (go_at_call 104; (with_reducible refine (HES2.out ⟨(fun h => by cases h.2), H256.out⟩ _).mono ?_); rintro e w3 ⟨rfl, hb3⟩; have HB3 : Hid (Below w.heap.size w w3) := Lib.hid (bthen HB2.out hb3); clear hb3; dsimp only))
            go_roundg (s.size - (pos + K))
            case measure => omega
            case rel => exact ⟨v ++ E, pos + K, rfl, by go_num, by omega, rfl, HST, hnew, HB3, HM2⟩
          · have hrz : ¬ (R : Int) < 256 := by omega
            have hr6 : (R : Int) < 65536 := by omega
            have H256 := Lib.hid h256
            clear h256
            go_wp2_with (first
              | (go_at_call 102; (with_reducible refine (decode_any t _ HTr.out R K HH).mono ?_); rintro e w1 ⟨rfl, hb1⟩; have HB1 : Hid (Below w.heap.size w w1) := Lib.hid (bthen HB.out hb1); clear hb1; dsimp only)
              | (go_at_call 103; (with_reducible refine (HSP.out _ HB1.out).mono ?_); rintro e w2 ⟨rfl, hb2⟩; have HB2 : Hid (Below w.heap.size w w2) := Lib.hid (bthen HB1.out hb2); clear hb2; dsimp only)
              | (go_at_call 105; (with_reducible refine (HES3.out ⟨(fun h => by cases h.2), H256.out⟩ _).mono ?_); rintro e w3 ⟨rfl, hb3⟩; have HB3 : Hid (Below w.heap.size w w3) := Lib.hid (bthen HB2.out hb3); clear hb3; dsimp only))
            go_roundg (s.size - (pos + K))
            case measure => omega
            case rel => exact ⟨v ++ E, pos + K, rfl, by go_num, by omega, rfl, HST, hnew, HB3, HM2⟩
      · have hpz : ((pos : Int) == 0) = false := by rw [beq_eq_false_iff_ne]; omega
        have HP0 := Lib.hid hp0
        clear hp0
        by_cases h256 : R < 256
        · have hrz : (R : Int) < 256 := by omega
          have H256 := Lib.hid h256
          clear h256
          go_wp2_with (first
            | (go_at_call 102; (with_reducible refine (decode_any t _ HTr.out R K HH).mono ?_); rintro e w1 ⟨rfl, hb1⟩; have HB1 : Hid (Below w.heap.size w w1) := Lib.hid (bthen HB.out hb1); clear hb1; dsimp only)
            | (go_at_call 104; (with_reducible refine (HES2.out ⟨(fun h => absurd h.1 HP0.out), H256.out⟩ _).mono ?_); rintro e w3 ⟨rfl, hb3⟩; have HB3 : Hid (Below w.heap.size w w3) := Lib.hid (bthen HB1.out hb3); clear hb3; dsimp only))
          go_roundg (s.size - (pos + K))
          case measure => omega
          case rel => exact ⟨v ++ E, pos + K, rfl, by go_num, by omega, rfl, HST, hnew, HB3, HM2⟩
        · have hrz : ¬ (R : Int) < 256 := by omega
          have hr6 : (R : Int) < 65536 := by omega
          have H256 := Lib.hid h256
          clear h256
          go_wp2_with (first
            | (go_at_call 102; (with_reducible refine (decode_any t _ HTr.out R K HH).mono ?_); rintro e w1 ⟨rfl, hb1⟩; have HB1 : Hid (Below w.heap.size w w1) := Lib.hid (bthen HB.out hb1); clear hb1; dsimp only)
            | (go_at_call 105; (with_reducible refine (HES3.out ⟨(fun h => absurd h.1 HP0.out), H256.out⟩ _).mono ?_); rintro e w3 ⟨rfl, hb3⟩; have HB3 : Hid (Below w.heap.size w w3) := Lib.hid (bthen HB1.out hb3); clear hb3; dsimp only))
          go_roundg (s.size - (pos + K))
          case measure => omega
          case rel => exact ⟨v ++ E, pos + K, rfl, by go_num, by omega, rfl, HST, hnew, HB3, HM2⟩
    · have hlz : ¬ (pos : Int) < (s.size : Int) := by omega
      have he := encAt_end HV.out hlt
      subst he
      clear hvs
      go_wp2
      go_ret
      exact ⟨rfl, HB.out⟩
set_option maxHeartbeats 2000000 in
set_option maxRecDepth 100000 in
theorem enc_all (e : Nat) (he : e = 1 ∨ e = 2) (s q : ByteArray) (w : World) (hs : s.size ≤ 2147483647) (hq : q.size ≤ 100) (hsm : ∀ R ∈ rn s, SmallR R ∧ R ≤ 65535) (hT : WTab w) :
    Calls Tryz.prog 73 #[.string s, .string q, .int .u64 (e : Int)] w fun e' w' => e' = .returned (.string (encT q e s)) ∧ Below w.heap.size w w' := by
  have HU := Lib.hid (encU_all s q w hs hq (fun R h => (hsm R h).1) hT)
  have HI := Lib.hid (encI_all s q w hs hq hsm hT)
  clear hsm hT
  rcases he with rfl | rfl
  · go_enter Tryz.func73, Tryz.ntmps73
    go_wp2_with (go_at_call 89; (with_reducible refine HU.out.mono ?_); rintro e w1 ⟨rfl, hb1⟩; dsimp only)
    go_ret
    exact ⟨rfl, hb1⟩
  · go_enter Tryz.func73, Tryz.ntmps73
    go_wp2_with (go_at_call 90; (with_reducible refine HI.out.mono ?_); rintro e w1 ⟨rfl, hb1⟩; dsimp only)
    go_ret
    exact ⟨rfl, hb1⟩
end Go.Proofs.YtgmhigjhooihdaaGreatDoor
