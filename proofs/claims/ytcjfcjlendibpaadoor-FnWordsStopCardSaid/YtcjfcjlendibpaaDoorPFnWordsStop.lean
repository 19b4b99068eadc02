/- The walk of the law FnWordsStop. -/
import Derived.Test.YtcjfcjlendibpaaDoorPBare
set_option linter.unusedVariables false
namespace Go.Proofs.YtcjfcjlendibpaaDoor
open Go.RowKit Plain Go.Proofs.YtcjfcjlendibpaaDoorW.PrintWords

theorem stop_words : words false (rnsOf [97, 32, 59, 32, 98]) = some ([[97]], 2) := by
  rw [rns_ascii _ (by decide)]
  decide +kernel
theorem plain_lt (c : UInt8) (h : plainC c.toNat = true) : c.toNat < 128 := by
  unfold plainC at h
  simp only [Bool.and_eq_true, decide_eq_true_eq] at h
  exact h.2
theorem stop_ok (l : List ByteArray) (hne : l ≠ []) (h : ∀ x ∈ l, bareP x) (R : UInt8) (hR : isSepN R.toNat = true) (hR2 : R.toNat < 128) (rest T : ByteArray) (hT : T.data.toList = (joinedB ⟨#[32]⟩ l).data.toList ++ 32 :: R :: rest.data.toList) :
    words false (rnsOf T.data.toList) = some (laOf l, (((joinedB ⟨#[32]⟩ l).size + 1 : Nat) : Int)) := by
  have hb : ∀ x ∈ laOf l, x ≠ [] ∧ ∀ c ∈ x, plainC c.toNat = true := by
    intro x hx
    obtain ⟨y, hy, rfl⟩ := List.mem_map.1 hx
    have h1 := h y hy
    exact ⟨fun e => h1.1 (by rw [Lib.size_eq, e]; rfl), h1.2⟩
  have hJ := joined_data (laOf l)
  have hJm := joined_mem (laOf l) (fun x hx c hc => plain_lt c ((hb x hx).2 c hc))
  rw [baOf_laOf] at hJ hJm
  rw [hT, rns_app _ _ hJm, rns_cons 32 _ (by decide), rns_cons R _ hR2, hJ]
  have := words_stop ((laOf l).map fun x => (x.map (·.toNat), x)) (by simpa [laOf] using hne) (by intro q hq; obtain ⟨y, hy, rfl⟩ := List.mem_map.1 hq; exact bare_ok y (hb y hy).1 (hb y hy).2) R.toNat hR (rnsOf rest.data.toList)
  simp only [List.map_map] at this
  have e1 : (laOf l).map (Prod.snd ∘ fun x => (x.map (·.toNat), x)) = laOf l := by
    rw [show (Prod.snd ∘ fun x : List UInt8 => (x.map (·.toNat), x)) = id from rfl, List.map_id]
  have e2 : (Prod.fst ∘ fun x : List UInt8 => (x.map (·.toNat), x)) = fun x => x.map (·.toNat) := rfl
  rw [e1, e2] at this
  have e3 : (joinN ((laOf l).map fun x => x.map (·.toNat))).length = (joinedB ⟨#[32]⟩ l).size := by rw [← hJ, List.length_map, ← Lib.size_eq]
  rw [e3] at this
  exact this
def sgn : List UInt8 := [59, 38, 124, 60, 62]
set_option maxHeartbeats 4000000 in
set_option maxRecDepth 100000 in
theorem fnWordsStop_walk (A : Option Addr) (n c : Nat) (l : List ByteArray) (sg : Int) (rest : ByteArray) (w : World) (hk : Kd.string.C w A n l) (hn : l.length = n) (hc : n ≤ c) (hsg : (Lit.int .u8 sg).wf = true) (hrs : rest.size ≤ 140737488351232) (hE0 : EVar w) :
    Calls Tryd.prog 6 #[.slice A n c, .int .u8 sg, .string rest] w fun e w' => e = .returned (.bool true) ∧ Below w.heap.size w w' := by
  obtain ⟨hsg0, hsg1⟩ := u8_bd hsg
  clear hsg
  obtain ⟨ft, hft⟩ : ∃ ft, (decide (l.length ≤ 2147483647) && fitsR l) = ft := ⟨_, rfl⟩
  have HF := Lib.hid (fits_at A n c l w ft hk hn hc hft)
  cases ft with
  | false =>
    clear hft hE0 hk hn hc
    go_enter Tryd.func6, Tryd.ntmps6
    go_wp2_with (go_at_call 14; (with_reducible refine HF.out.mono ?_); rintro e w1 ⟨rfl, hb1⟩; dsimp only)
    go_ret
    exact ⟨rfl, hb1⟩
  | true =>
    by_cases hr31 : 2147483647 < rest.size
    · have hrz : (2147483647 : Int) < (rest.size : Int) := by omega
      clear hft hE0 hk hn hc
      go_enter Tryd.func6, Tryd.ntmps6
      go_wp2_with (go_at_call 14; (with_reducible refine HF.out.mono ?_); rintro e w1 ⟨rfl, hb1⟩; dsimp only)
      go_ret
      exact ⟨rfl, hb1⟩
    have hrz : ¬ (2147483647 : Int) < (rest.size : Int) := by omega
    simp only [Bool.and_eq_true, decide_eq_true_eq] at hft
    obtain ⟨hl31, hfl⟩ := hft
    have HBA := Lib.hid (fun W (hb : Below w.heap.size w W) => bare_any A n c l W (Kd.C_below hk hb) hn hc hl31 hfl)
    have HO := Lib.hid (fun W hE => words0 ⟨#[97, 32, 59, 32, 98]⟩ _ stop_words W (by decide) hE)
    obtain ⟨lb, hlb⟩ : ∃ lb, decide (4096 < rest.size) = lb := ⟨_, rfl⟩
    have HLB := Lib.hid hlb
    have HL := Lib.hid (fun w => long_at rest w lb hlb)
    have HE0 := Lib.hid hE0
    have HK := Lib.hid hk
    have HN := Lib.hid hn
    clear hE0 hk hn hl31 hfl hlb
    go_enter Tryd.func6, Tryd.ntmps6
    go_wp2_with (go_at_call 14; (with_reducible refine HF.out.mono ?_); rintro e w1 ⟨rfl, hb1⟩; dsimp only)
    have HE1 := Lib.hid (HE0.out.below hb1)
    have HB1 := Lib.hid hb1
    clear hb1
    refine (HO.out _ HE1.out).mono ?_
    intro e w2 hp
    obtain ⟨g, c2, rfl, ho, hb2⟩ := w0_some hp
    have hoc := own_le ho
    have HKK := Lib.hid (kc_own ho rfl (by decide))
    have HB2 := Lib.hid (bthen HB1.out hb2)
    have HE2 := Lib.hid (HE1.out.below hb2)
    clear hp ho hb2
    dsimp only
    have hq := eqTexts_at (some ⟨g, 0, none⟩) (some ⟨w2.heap.size, 0, none⟩) 1 1 c2 1 (baOf [[97]]) [⟨#[97]⟩] (w2.alloc (.cells #[.string ⟨#[97]⟩] 9)) true (Kd.C_below HKK.out ((Below.refl _ w2).alloc (Nat.le_refl _) _)) (kc_new w2 [⟨#[97]⟩] 1 rfl (by decide)) rfl rfl hoc (by decide) (by decide) (by decide)
    have HQ := Lib.hid hq
    clear hq
    go_wp2_with (go_at_call 13; (with_reducible refine HQ.out.mono ?_); rintro e w3 ⟨rfl, hb3⟩; dsimp only)
    have hb3' := bthen ((Below.refl _ w2).alloc (Nat.le_refl _) (.cells #[.string ⟨#[97]⟩] 9)) hb3
    have HB3 := Lib.hid (bthen HB2.out hb3')
    have HE3 := Lib.hid (HE2.out.below hb3')
    clear hb3 hb3' HB1 HB2 HE1 HE2 HO HF HQ
    refine (HBA.out _ HB3.out).mono ?_
    intro e w4 hp
    obtain ⟨b, rfl, hbt, hb4⟩ := hp
    have HB4 := Lib.hid (bthen HB3.out hb4)
    have HE4 := Lib.hid (HE3.out.below hb4)
    clear hb4 HB3 HE3 HBA
    dsimp only
    cases b with
    | false =>
      clear hbt
      go_wp2_with fail
      go_ret
      exact ⟨rfl, HB4.out⟩
    | true =>
      obtain ⟨hbl, hbs⟩ := hbt rfl
      have HBL := Lib.hid hbl
      have HBS := Lib.hid hbs
      have hn1 : n ≤ 1000 := by rw [← HN.out]; omega
      clear hbl hbs hbt
      by_cases hn0 : n = 0
      · subst hn0
        go_wp2_with fail
        go_ret
        exact ⟨rfl, HB4.out⟩
      · have hnb : ((n : Int) == 0) = false := by rw [beq_eq_false_iff_ne]; omega
        have hne : l ≠ [] := by intro e; have := HN.out; rw [e] at this; simp at this; omega
        have HNE := Lib.hid hne
        clear hn0 hne
        go_wp2_with (go_at_call 10; (with_reducible refine (HL.out _).mono ?_))
        rintro e w5 ⟨rfl, hb5⟩
        dsimp only
        have HB5 := Lib.hid (bthen HB4.out hb5)
        have HE5 := Lib.hid (HE4.out.below hb5)
        clear hb5 HB4 HE4
        cases lb with
        | true =>
          go_wp2_with fail
          go_ret
          exact ⟨rfl, HB5.out⟩
        | false =>
          have hr4 : rest.size ≤ 4096 := by simpa using HLB.out
          obtain ⟨m, hm⟩ : ∃ m : Nat, sg % 5 = (m : Int) := ⟨(sg % 5).toNat, by omega⟩
          have hm5 : m < 5 := by omega
          have hm5z : (m : Int) < 5 := by omega
          have hmz : sg.tmod 5 = (m : Int) := by rw [Int.tmod_eq_emod_of_nonneg hsg0]; exact hm
          obtain ⟨R, hR, hRs, hRa⟩ : ∃ R, sgn[m]? = some R ∧ isSepN R.toNat = true ∧ R.toNat < 128 := by
            have : ∀ m : Fin 5, isSepN (sgn[m.1]'m.2).toNat = true ∧ (sgn[m.1]'m.2).toNat < 128 := by decide
            exact ⟨sgn[m]'hm5, List.getElem?_eq_getElem hm5, this ⟨m, hm5⟩⟩
          have hcT : ∀ W : World, (W.alloc (.cells #[.string ⟨#[59]⟩, .string ⟨#[38]⟩, .string ⟨#[124]⟩, .string ⟨#[60]⟩, .string ⟨#[62]⟩] 9)).cell? ⟨W.heap.size, m, none⟩ = some (.string ⟨#[R]⟩) := by
            intro W
            rw [World.cell?_alloc_new]
            have e : (#[.string ⟨#[59]⟩, .string ⟨#[38]⟩, .string ⟨#[124]⟩, .string ⟨#[60]⟩, .string ⟨#[62]⟩] : Array Value) = (sgn.map fun x => Value.string ⟨#[x]⟩).toArray := rfl
            rw [e]
            simp [hR]
          obtain ⟨J, hJ⟩ : ∃ J, joinedB ⟨#[32]⟩ l = J := ⟨_, rfl⟩
          have hjs := joined_size l
          rw [hJ] at hjs
          have hbs := HBS.out
          have hJs : J.size ≤ 1000 := by omega
          obtain ⟨SS, hSS⟩ : ∃ SS : ByteArray, J ++ ⟨#[32]⟩ = SS := ⟨_, rfl⟩
          obtain ⟨TR, hTR⟩ : ∃ TR : ByteArray, SS ++ ⟨#[R]⟩ = TR := ⟨_, rfl⟩
          obtain ⟨T, hT⟩ : ∃ T : ByteArray, TR ++ rest = T := ⟨_, rfl⟩
          have hTd : T.data.toList = J.data.toList ++ 32 :: R :: rest.data.toList := by rw [← hT, ← hTR, ← hSS]; simp
          have hTs : T.size ≤ 6000 := by rw [Lib.size_eq, hTd, List.length_append, List.length_cons, List.length_cons, ← Lib.size_eq, ← Lib.size_eq]; omega
          obtain ⟨p, hp⟩ : ∃ p : Nat, J.size + 1 = p := ⟨_, rfl⟩
          have HWD := Lib.hid (by have := stop_ok l HNE.out HBL.out R hRs hRa rest T (by rw [hJ]; exact hTd); rw [hJ, hp] at this; exact this)
          have HJ := Lib.hid (fun W hk => joined_at A n c l ⟨#[32]⟩ W J hk HN.out hc (by omega) (by decide) (by omega) hJ)
          have HW := Lib.hid (fun W hE => words0 T (some (laOf l, (p : Int))) HWD.out W (by omega) hE)
          have s32 : (⟨#[32]⟩ : ByteArray).size = 1 := rfl
          have sR : (⟨#[R]⟩ : ByteArray).size = 1 := rfl
          have q1 : SS.size = p := by rw [← hSS, ByteArray.size_append, s32]; exact hp
          have hp1 : p ≤ 1001 := by omega
          have q2 : TR.size ≤ 1002 := by rw [← hTR, ByteArray.size_append, sR, q1]; omega
          have hSz : (SS.size : Int) = (p : Int) := by omega
          have HSS := Lib.hid hSS
          have HTR := Lib.hid hTR
          have HT := Lib.hid hT
          clear hm hR hRs hRa hJ hjs hbs hT hTd q1 s32 sR hp hSS hTR
          have hB6 := (Below.refl _ w5).alloc (Nat.le_refl _) (.cells #[.string ⟨#[59]⟩, .string ⟨#[38]⟩, .string ⟨#[124]⟩, .string ⟨#[60]⟩, .string ⟨#[62]⟩] 9)
          have HK6 := Lib.hid (Kd.C_below HK.out (bthen HB5.out hB6))
          have HB6 := Lib.hid (bthen HB5.out hB6)
          have HE6 := Lib.hid (HE5.out.below hB6)
          have HJ6 := Lib.hid (HJ.out _ HK6.out)
          clear hB6 HJ
          go_wp2_with (go_at_call 17; (with_reducible refine HJ6.out.mono ?_))
          rintro e w6 ⟨rfl, hb6⟩
          dsimp only
          have HB7 := Lib.hid (bthen HB6.out hb6)
          have HE7 := Lib.hid (HE6.out.below hb6)
          have hs1 := HSS.out
          have hs2 := HTR.out
          have hs3 := HT.out
          clear hb6
          go_wp2_with (go_at_call 11; (with_reducible refine (HW.out _ HE7.out).mono ?_))
          intro e w7 hp
          obtain ⟨g5, c5, rfl, ho5, hb5⟩ := w0_some hp
          have hc5 := own_le ho5
          have hla : (laOf l).length = n := by rw [laOf_length, HN.out]
          rw [hla] at ho5 hc5 ⊢
          have hk5 := kc_own ho5 hla (by omega)
          rw [baOf_laOf] at hk5
          have HQ := Lib.hid (eqTexts_at (some ⟨g5, 0, none⟩) A n n c5 c l l w7 true hk5 (Kd.C_below HK.out (bthen HB7.out hb5)) HN.out HN.out hc5 hc (by omega) (by simp))
          have HB8 := Lib.hid (bthen HB7.out hb5)
          clear hp ho5 hb5 hla hk5
          dsimp only
          go_wp2_with (go_at_call 13; (with_reducible refine HQ.out.mono ?_); rintro e w8 ⟨rfl, hb8⟩; dsimp only)
          go_ret
          exact ⟨rfl, bthen HB8.out hb8⟩
end Go.Proofs.YtcjfcjlendibpaaDoor
