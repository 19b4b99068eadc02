/- The walk of the law FnTranslateLast. -/
import Derived.Test.YtdgaehkfdaacjaaDoorTrHas
import Derived.LoopTactic
set_option linter.unusedVariables false
namespace Go.Proofs.YtdgaehkfdaacjaaDoor
open Go.RowKit Plain

theorem u8_bd {x : Int} (h : (Lit.int .u8 x).wf = true) : 0 ≤ x ∧ x ≤ 255 := by simpa [Lit.wf, IntKind.min, IntKind.max, IntKind.signed, IntKind.bits] using h
theorem vld_of2 {s : ByteArray} (h : vld s = true) : s.size ≤ 4096 ∧ Lib.validD s.data.toList = true := by
  unfold vld at h
  rw [Bool.and_eq_true] at h
  exact ⟨of_decide_eq_true h.1, h.2⟩
theorem rnsL_step (s : ByteArray) (pos : Nat) (hp : pos < s.size) : rnsL (s.data.toList.drop pos) = (Utf8.decode s pos).1 :: rnsL (s.data.toList.drop (pos + (Utf8.decode s pos).2)) := by
  have hne : s.data.toList.drop pos ≠ [] := by
    intro e
    have := congrArg List.length e
    rw [List.length_drop, ← Lib.size_eq] at this
    simp at this
    omega
  unfold rnsL
  rw [segs_step _ hne, List.map_cons, List.drop_drop, Lib.decodeL_drop]
  congr 1
  unfold runeOf
  have := decodeL_take _ hne
  rw [Lib.decodeL_drop] at this
  rw [this]
theorem hll_eq : trS ⟨#[97, 101, 105, 111, 117]⟩ ⟨#[42]⟩ ⟨#[104, 101, 108, 108, 111]⟩ = ⟨#[104, 42, 108, 108, 42]⟩ := by decide +kernel
theorem hll_c (w : World) (hT : Tabs w) : Calls Tryd.prog 18 #[.string ⟨#[104, 101, 108, 108, 111]⟩, .string ⟨#[97, 101, 105, 111, 117]⟩, .string ⟨#[42]⟩] w fun e w' => e = .returned (.string ⟨#[104, 42, 108, 108, 42]⟩) ∧ Below w.heap.size w w' := by
  have := iTranslate ⟨#[104, 101, 108, 108, 111]⟩ ⟨#[97, 101, 105, 111, 117]⟩ ⟨#[42]⟩ w (by decide) (by decide) (by decide) hT
  rwa [hll_eq] at this

set_option maxHeartbeats 8000000 in
set_option maxRecDepth 100000 in
theorem fnTranslateLast_walk (s l : ByteArray) (ci : Int) (w : World) (hs0 : s.size ≤ 140737488351232) (hl0 : l.size ≤ 140737488351232) (h3 : (Lit.int .u8 ci).wf = true) (hT : Tabs w) :
    Calls Tryd.prog 6 #[.string s, .string l, .int .u8 ci] w fun e w' => e = .returned (.bool true) ∧ Below w.heap.size w w' := by
  have b1 := u8_bd h3
  obtain ⟨c, rfl⟩ : ∃ c : Nat, ci = (c : Int) := ⟨ci.toNat, by omega⟩
  have hc : c ≤ 255 := by omega
  have hc0 : (0 : Int) ≤ (c : Int) := by omega
  have hc1 : (c : Int) ≤ 255 := by omega
  clear h3 b1
  by_cases hs : 2147483647 < s.size
  · have hzs : (2147483647 : Int) < (s.size : Int) := by omega
    go_enter Tryd.func6, Tryd.ntmps6
    go_wp2
    go_ret
    exact ⟨rfl, Below.refl _ _⟩
  have hzs : ¬ (2147483647 : Int) < (s.size : Int) := by omega
  by_cases hl : 2147483647 < l.size
  · have hzl : (2147483647 : Int) < (l.size : Int) := by omega
    go_enter Tryd.func6, Tryd.ntmps6
    go_wp2
    go_ret
    exact ⟨rfl, Below.refl _ _⟩
  have hzl : ¬ (2147483647 : Int) < (l.size : Int) := by omega
  obtain ⟨x, hx, hxa⟩ : ∃ x : UInt8, (x.toNat : Int) = 65 + (c : Int) % 26 ∧ alnB x = true := by
    have e : (UInt8.ofNat (65 + c % 26)).toNat = 65 + c % 26 := by rw [UInt8.toNat_ofNat']; omega
    refine ⟨UInt8.ofNat (65 + c % 26), by rw [e]; omega, ?_⟩
    have : capB (UInt8.ofNat (65 + c % 26)) = true := by
      unfold capB
      rw [e]
      simp
      omega
    unfold alnB
    rw [this]
    rfl
  have hcA : ∀ W : World, (convert 30 9 (.slice (some ⟨W.heap.size, 0, none⟩) 1 1)).run Tryd.prog (W.alloc (.cells #[.int .u8 (65 + (c : Int) % 26)] 5)) = .ok (.string ⟨#[x]⟩) (W.alloc (.cells #[.int .u8 (65 + (c : Int) % 26)] 5)) := fun W => conv_byte x _ hx _ _ (by simp)
  have HVa := Lib.hid (fun w hT => valid_any s w (by omega) hT)
  have HSf := Lib.hid (fun w => simple_any l w (by omega))
  obtain ⟨bf, hbf⟩ : ∃ bf, decide (2 + sumSz [s, l] ≤ 400) = bf := ⟨_, rfl⟩
  have HF : Hid (∀ w : World, Calls Tryd.prog 11 #[.slice (some ⟨w.heap.size, 0, none⟩) 2 2] (w.alloc (.cells #[.string s, .string l] 9)) fun e w' => e = .returned (.bool bf) ∧ w.alloc (.cells #[.string s, .string l] 9) = w') :=
    Lib.hid (fun w => few_row [s, l] 2 rfl w (by omega) (by simp only [sumSz, List.map_cons, List.map_nil, List.sum_cons, List.sum_nil]; omega) bf hbf)
  cases hva : vld s with
  | false =>
    rw [hva] at HVa
    clear hva hbf hx
    go_enter Tryd.func6, Tryd.ntmps6
    go_wp2_with (go_at_call 18; (with_reducible refine (hll_c _ hT).mono ?_); rintro e w1 ⟨rfl, hb1⟩; dsimp only)
    have hT1 := hT.below hb1
    have hbW := hb1.trans (((Below.refl _ w1).alloc (Nat.le_refl _) (.cells #[.int .u8 (65 + (c : Int) % 26)] 5)).mono hb1.size)
    have hTW := hT.below hbW
    go_wp2_with (go_at_call 19; (with_reducible refine (HVa.out _ hTW).mono ?_); rintro e w2 ⟨rfl, hb2⟩; dsimp only)
    have hB2 := bthen hbW hb2
    have hT2 := hT.below hB2
    go_ret
    exact ⟨rfl, hB2⟩
  | true =>
    rw [hva] at HVa
    obtain ⟨hv1, hv2⟩ := vld_of2 hva
    clear hva
    cases bf with
    | false =>
      clear hbf hv1 hv2 hx hxa
      go_enter Tryd.func6, Tryd.ntmps6
      go_wp2_with (go_at_call 18; (with_reducible refine (hll_c _ hT).mono ?_); rintro e w1 ⟨rfl, hb1⟩; dsimp only)
      have hT1 := hT.below hb1
      have hbW := hb1.trans (((Below.refl _ w1).alloc (Nat.le_refl _) (.cells #[.int .u8 (65 + (c : Int) % 26)] 5)).mono hb1.size)
      have hTW := hT.below hbW
      go_wp2_with (go_at_call 19; (with_reducible refine (HVa.out _ hTW).mono ?_); rintro e w2 ⟨rfl, hb2⟩; dsimp only)
      have hB2 := bthen hbW hb2
      have hT2 := hT.below hB2
      go_wp2_with (go_at_call 11; (with_reducible refine (HF.out _).mono ?_); rintro e w4 ⟨rfl, rfl⟩; dsimp only)
      have hB4 := bthen hB2 ((Below.refl _ w2).alloc (Nat.le_refl _) (.cells #[.string s, .string l] 9))
      have hT4 := hT.below hB4
      go_ret
      exact ⟨rfl, hB4⟩
    | true =>
      have hsum := of_decide_eq_true hbf
      simp only [sumSz, List.map_cons, List.map_nil, List.sum_cons, List.sum_nil] at hsum
      have hs1 : s.size ≤ 400 := by omega
      have hl1 : l.size ≤ 400 := by omega
      clear hbf hsum hv1
      cases hsf : simB l with
      | false =>
        rw [hsf] at HSf
        clear hsf hv2 hx hxa
        go_enter Tryd.func6, Tryd.ntmps6
        go_wp2_with (go_at_call 18; (with_reducible refine (hll_c _ hT).mono ?_); rintro e w1 ⟨rfl, hb1⟩; dsimp only)
        have hT1 := hT.below hb1
        have hbW := hb1.trans (((Below.refl _ w1).alloc (Nat.le_refl _) (.cells #[.int .u8 (65 + (c : Int) % 26)] 5)).mono hb1.size)
        have hTW := hT.below hbW
        go_wp2_with (go_at_call 19; (with_reducible refine (HVa.out _ hTW).mono ?_); rintro e w2 ⟨rfl, hb2⟩; dsimp only)
        have hB2 := bthen hbW hb2
        have hT2 := hT.below hB2
        go_wp2_with (go_at_call 11; (with_reducible refine (HF.out _).mono ?_); rintro e w4 ⟨rfl, rfl⟩; dsimp only)
        have hB4 := bthen hB2 ((Below.refl _ w2).alloc (Nat.le_refl _) (.cells #[.string s, .string l] 9))
        have hT4 := hT.below hB4
        go_wp2_with (go_at_call 20; (with_reducible refine (HSf.out _).mono ?_); rintro e w5 ⟨rfl, rfl⟩; dsimp only)
        go_ret
        exact ⟨rfl, hB4⟩
      | true =>
        rw [hsf] at HSf
        have hlast := trS_last hsf x hxa s hv2
        have HTr := Lib.hid (fun w hT => iTranslate s l ⟨#[x]⟩ w (by omega) (by omega) (show (1 : Nat) ≤ 2147483647 by decide) hT)
        have hmem : ∀ n, (n ∈ l.data.toList.map fun c => c.toNat) ↔ n ∈ rnsL l.data.toList := fun n => by rw [aln_rns _ (simB_bare hsf).2]
        have HM := Lib.hid hmem
        generalize trS l ⟨#[x]⟩ s = T at HTr hlast
        have HL := Lib.hid hlast
        have AB : ∀ b ∈ l.data.toList, b.toNat < 128 := fun b hb => (aln_asc ((simB_bare hsf).2 b hb)).1
        clear hlast hmem hsf hv2 hx hxa
        go_enter Tryd.func6, Tryd.ntmps6
        go_wp2_with (go_at_call 18; (with_reducible refine (hll_c _ hT).mono ?_); rintro e w1 ⟨rfl, hb1⟩; dsimp only)
        have hT1 := hT.below hb1
        have hbW := hb1.trans (((Below.refl _ w1).alloc (Nat.le_refl _) (.cells #[.int .u8 (65 + (c : Int) % 26)] 5)).mono hb1.size)
        have hTW := hT.below hbW
        go_wp2_with (go_at_call 19; (with_reducible refine (HVa.out _ hTW).mono ?_); rintro e w2 ⟨rfl, hb2⟩; dsimp only)
        have hB2 := bthen hbW hb2
        have hT2 := hT.below hB2
        go_wp2_with (go_at_call 11; (with_reducible refine (HF.out _).mono ?_); rintro e W4 ⟨rfl, hw4⟩; dsimp only)
        have hB4 : Below w.heap.size w W4 := hw4 ▸ bthen hB2 ((Below.refl _ w2).alloc (Nat.le_refl _) (.cells #[.string s, .string l] 9))
        clear hw4
        have hT4 := hT.below hB4
        go_wp2_with (go_at_call 20; (with_reducible refine (HSf.out _).mono ?_); rintro e W4 ⟨rfl, rfl⟩; dsimp only)
        go_wp2
        go_loopw [8, 10] (fun xv rv wr => ∃ (pos : Nat) (X : ByteArray), xv = .string X ∧ wr.heap[W4.heap.size]? = some (.stringIter s pos) ∧ pos ≤ s.size + 4 ∧ X.size ≤ 4 * pos ∧ Below w.heap.size w wr ∧ X.data.toList ++ lastR l.data.toList x (rnsL (s.data.toList.drop pos)) = T.data.toList) (fun _ _ wr => s.size + 4 - wr.iterPos W4.heap.size)
        case atStart => exact ⟨0, ⟨#[]⟩, rfl, World.iter_heap W4 s 0, by omega, by decide, hB4.trans (((Below.refl _ W4).alloc (Nat.le_refl _) _).mono hB4.size), by simpa using HL.out.symm⟩
        case round =>
          obtain ⟨pos, X, rfl, hit, hps, hX, hbw, hal⟩ := hrel
          have HC := Lib.hid hal
          clear hal
          have hsz : W4.heap.size < wr.heap.size := (Array.getElem?_eq_some_iff.1 hit).1
          by_cases hp : pos < s.size
          · have hnx : ∀ ty, (Instr.next (.pointer (some ⟨W4.heap.size, 0, none⟩)) true ty).run Tryd.prog wr = _ := fun ty => Lib.run_next_any_at wr W4.heap.size s pos ty hit hp
            have hwd := Lib.decode_width_pos s pos hp
            have hd1 := decode_le s pos
            have hw4 : (Utf8.decode s pos).2 ≤ 4 := by rw [Lib.decode_at]; unfold Lib.decodeN; (repeat' split) <;> simp
            have hit2 := Lib.iterAt_heap wr W4.heap.size s pos (pos + (Utf8.decode s pos).2) hit
            have hbw2 := Lib.below_iterAt hbw (k := W4.heap.size) (by have := hB4.size; omega) s (pos + (Utf8.decode s pos).2)
            have HS := Lib.hid (rnsL_step s pos hp)
            obtain ⟨R, hR⟩ : ∃ R, (Utf8.decode s pos).1 = R := ⟨_, rfl⟩
            obtain ⟨K, hK⟩ : ∃ K, (Utf8.decode s pos).2 = K := ⟨_, rfl⟩
            rw [hR, hK] at HS
            rw [hR] at hd1
            rw [hK] at hwd hw4 hit2 hbw2
            rw [hR, hK] at hnx
            clear hR hK
            obtain ⟨V, hV⟩ : ∃ V, wr.iterAt W4.heap.size s (pos + K) = V := ⟨_, rfl⟩
            rw [hV] at hnx hit2 hbw2
            clear hV hsz
            have hszV : W4.heap.size < V.heap.size := (Array.getElem?_eq_some_iff.1 hit2).1
            have HI2 := Lib.hid hit2
            have HI := Lib.hid hit
            clear hit hit2 hbw
            have hR0 : (0 : Int) ≤ (R : Int) := by omega
            have hR1 : (R : Int) ≤ 2147483647 := by omega
            by_cases hra : R < 128
            · have hraz : (R : Int) < 128 := by omega
              have HH := Lib.hid (fun w => has_any l R (by omega) w (by omega))
              by_cases hin : R ∈ l.data.toList.map fun c => c.toNat
              · rw [decide_eq_true hin] at HH
                have HN := Lib.hid ((HM.out R).1 hin)
                clear hin
                go_wp2_with (go_at_call 21; (with_reducible refine (HH.out _).mono ?_); rintro e V ⟨rfl, rfl⟩; dsimp only)
                go_wp2
                go_roundw
                case rel =>
                  refine ⟨pos + K, X ++ ⟨#[x]⟩, rfl, HI2.out, by omega, by (have e1 : (X ++ (⟨#[x]⟩ : ByteArray)).size = X.size + 1 := by rw [ByteArray.size_append]; rfl); omega, hbw2, ?_⟩
                  have := HC.out
                  rw [HS.out, lastR_in _ _ _ HN.out] at this
                  simpa using this
                case measure =>
                  have h1 := HI.out; have h2 := HI2.out
                  rw [iterPos_of h2, iterPos_of h1]
                  omega
              · rw [decide_eq_false hin] at HH
                have HN := Lib.hid (fun h => hin ((HM.out R).2 h))
                clear hin
                obtain ⟨E, hE, hEs⟩ : ∃ E, Utf8.encode (R : Int) = E ∧ E.data.toList = Lib.encodeRune (R : Int) := ⟨_, rfl, encode_list _⟩
                have hE4 : E.size ≤ 4 := by rw [Lib.size_eq, hEs]; exact encode_len _
                have hcR : ∀ W : World, (convert 33 9 (.slice (some ⟨W.heap.size, 0, none⟩) 1 1)).run Tryd.prog (W.alloc (.cells #[.int .i32 (R : Int)] 21)) = .ok (.string E) (W.alloc (.cells #[.int .i32 (R : Int)] 21)) := fun W => hE ▸ conv_rune (R : Int) _ _ (by simp)
                have HEs := Lib.hid hEs
                clear hE hEs
                go_wp2_with (go_at_call 21; (with_reducible refine (HH.out _).mono ?_); rintro e V ⟨rfl, rfl⟩; dsimp only)
                go_wp2
                go_roundw
                case rel =>
                  refine ⟨pos + K, X ++ E, rfl, (Lib.alloc_old V _ _ hszV).trans HI2.out, by omega, by simp; omega, hbw2.alloc hbw2.size _, ?_⟩
                  have := HC.out
                  rw [HS.out, lastR_out _ _ _ HN.out] at this
                  simpa [HEs.out] using this
                case measure =>
                  have h1 := HI.out; have h2 := (Lib.alloc_old V (.cells #[.int .i32 (R : Int)] 21) _ hszV).trans HI2.out
                  rw [iterPos_of h2, iterPos_of h1]
                  omega
            · have hraz : ¬ (R : Int) < 128 := by omega
              have HN : Hid (R ∉ rnsL l.data.toList) := Lib.hid (fun h => by
                obtain ⟨b, hb, hbr⟩ := List.mem_map.1 ((HM.out R).2 h)
                exact hra (hbr ▸ AB b hb))
              obtain ⟨E, hE, hEs⟩ : ∃ E, Utf8.encode (R : Int) = E ∧ E.data.toList = Lib.encodeRune (R : Int) := ⟨_, rfl, encode_list _⟩
              have hE4 : E.size ≤ 4 := by rw [Lib.size_eq, hEs]; exact encode_len _
              have hcR : ∀ W : World, (convert 33 9 (.slice (some ⟨W.heap.size, 0, none⟩) 1 1)).run Tryd.prog (W.alloc (.cells #[.int .i32 (R : Int)] 21)) = .ok (.string E) (W.alloc (.cells #[.int .i32 (R : Int)] 21)) := fun W => hE ▸ conv_rune (R : Int) _ _ (by simp)
              have HEs := Lib.hid hEs
              clear hE hEs
              go_wp2
              go_roundw
              case rel =>
                refine ⟨pos + K, X ++ E, rfl, (Lib.alloc_old V _ _ hszV).trans HI2.out, by omega, by simp; omega, hbw2.alloc hbw2.size _, ?_⟩
                have := HC.out
                rw [HS.out, lastR_out _ _ _ HN.out] at this
                simpa [HEs.out] using this
              case measure =>
                have h1 := HI.out; have h2 := (Lib.alloc_old V (.cells #[.int .i32 (R : Int)] 21) _ hszV).trans HI2.out
                rw [iterPos_of h2, iterPos_of h1]
                omega
          · have hnx : ∀ ty, (Instr.next (.pointer (some ⟨W4.heap.size, 0, none⟩)) true ty).run Tryd.prog wr = _ := fun ty => Lib.run_next_end_at wr W4.heap.size s pos ty hit hp
            have hTr := hT.below hbw
            have e0 : s.data.toList.drop pos = [] := List.drop_eq_nil_of_le (by rw [← Lib.size_eq]; omega)
            obtain rfl : X = T := by
              have := HC.out
              rw [e0] at this
              apply ByteArray.ext
              apply Array.toList_inj.1
              simpa [rnsL, segs_nil, lastR] using this
            clear e0
            go_wp2_with (go_at_call 18; (with_reducible refine (HTr.out _ hTr).mono ?_); rintro e w6 ⟨rfl, hb6⟩; dsimp only)
            go_ret
            exact ⟨rfl, bthen hbw hb6⟩
end Go.Proofs.YtdgaehkfdaacjaaDoor
