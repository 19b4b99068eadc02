/- The walk of spec.Reverse. -/
import Derived.Test.YtobcoplfniojkaaDoorSJust
import Derived.Test.YtobcoplfniojkaaDoorReverse
import Derived.LoopTactic
set_option linter.unusedVariables false
namespace Go.Proofs.YtobcoplfniojkaaDoor
open Go.RowKit Plain

theorem rev_text (l : List UInt8) (h : Lib.validD l = true) : textOf (rnsOf l).reverse = ⟨(revB l).toArray⟩ := by
  apply ByteArray.ext
  apply Array.toList_inj.1
  unfold rnsOf
  rw [← List.map_reverse, textOf_good _ (fun c hc => segs_good l h c (List.mem_reverse.1 hc))]
  rfl
theorem row_fresh (w : World) (v : Value) {B : Nat} (hB : B ≤ w.heap.size) : (w.alloc (.cells #[v] 21)).ownsRow B 21 1 (.slice (some ⟨w.heap.size, 0, none⟩) 1 1) 1 [v] :=
  ⟨rfl, .inr ⟨w.heap.size, 1, #[v], rfl, hB, heap_alloc_new w _, Nat.le_refl _, by unfold maxLen; omega, rfl, rfl⟩⟩
set_option maxHeartbeats 4000000 in
set_option maxRecDepth 100000 in
theorem specReverse_any (s : ByteArray) (w : World) (hs : s.size ≤ 2147483647) (hT : Tabs w) :
    Calls Tryd.prog 29 #[.string s] w fun e w' => SAns ⟨(revB s.data.toList).toArray⟩ (Lib.validD s.data.toList = true) e ∧ Below w.heap.size w w' := by
  obtain ⟨i0, hi, hz0, hz1, hz2⟩ := info_parts infoRune
  obtain ⟨vs, hvs⟩ : ∃ vs, ([s].all fun x => Lib.validD x.data.toList) = vs := ⟨_, rfl⟩
  have HS : Hid (Calls Tryd.prog 50 #[.slice (some ⟨w.heap.size, 0, none⟩) 1 1] (w.alloc (.cells #[.string s] 9)) fun e w' => e = .returned (.bool vs) ∧ Below w.heap.size w w') :=
    Lib.hid (settled_row [s] 1 rfl w (by decide) (by intro x hx; simp at hx; rw [hx]; omega) hT vs hvs)
  cases vs with
  | false =>
    clear hvs
    go_enter Tryd.func29, Tryd.ntmps29
    go_wp2_with (go_at_call 50; (with_reducible refine HS.out.mono ?_); rintro e w2 ⟨rfl, hb2⟩; dsimp only)
    go_wp2
    go_ret2
    exact ⟨.inl ⟨_, rfl⟩, hb2⟩
  | true =>
    have hv : Lib.validD s.data.toList = true := by simpa using hvs
    have HV := Lib.hid hv
    have HRT := Lib.hid (rev_text _ hv)
    obtain ⟨ALL, hALL⟩ : ∃ ALL, rnsOf s.data.toList = ALL := ⟨_, rfl⟩
    have HA := Lib.hid hALL
    clear hvs hv hALL
    go_enter Tryd.func29, Tryd.ntmps29
    go_wp2_with (go_at_call 50; with_reducible refine HS.out.mono ?_)
    rintro e W3 ⟨rfl, hb3⟩
    dsimp only
    have HB3 := Lib.hid hb3
    clear hb3
    go_wp2
    go_loopw [4, 6] (fun ov cv wr => ∃ (pos : Nat) (O : List Nat), wr.ownsRow (W3.heap.size + 1) 21 1 ov O.length (rcells O) ∧ wr.heap[W3.heap.size]? = some (.stringIter s pos) ∧ pos ≤ s.size + 4 ∧ O.length ≤ pos ∧ (O = [] → ov = .slice none 0 0) ∧ Below W3.heap.size W3 wr ∧ O.reverse ++ rnsOf (s.data.toList.drop pos) = ALL) (fun _ _ wr => s.size + 4 - wr.iterPos W3.heap.size)
    case atStart => exact ⟨0, [], World.ownsRow_nil _ _ _ _, World.iter_heap W3 s 0, by omega, by simp, (fun _ => rfl), (Below.refl _ W3).alloc (Nat.le_refl _) _, by simpa using HA.out⟩
    case round =>
      obtain ⟨pos, O, how, hit, hps, hOl, hnil, hbw, hal⟩ := hrel
      have HC := Lib.hid hal
      have HOW := Lib.hid how
      clear hal how
      by_cases hp : pos < s.size
      · have hnx : ∀ ty, (Instr.next (.pointer (some ⟨W3.heap.size, 0, none⟩)) true ty).run Tryd.prog wr = _ := fun ty => Lib.run_next_any_at wr W3.heap.size s pos ty hit hp
        have hwd := Lib.decode_width_pos s pos hp
        have hd1 := decode_le s pos
        have hw4 : (Utf8.decode s pos).2 ≤ 4 := by rw [Lib.decode_at]; unfold Lib.decodeN; (repeat' split) <;> simp
        have hit2 := Lib.iterAt_heap wr W3.heap.size s pos (pos + (Utf8.decode s pos).2) hit
        have hbw2 := Lib.below_iterAt hbw (k := W3.heap.size) (Nat.le_refl _) s (pos + (Utf8.decode s pos).2)
        have hOW2 := ownsRow_iterAt HOW.out (k := W3.heap.size) (by omega) s (pos + (Utf8.decode s pos).2)
        have HST := Lib.hid (rnsOf_step s pos hp)
        obtain ⟨R, hR⟩ : ∃ R, (Utf8.decode s pos).1 = R := ⟨_, rfl⟩
        obtain ⟨K, hK⟩ : ∃ K, (Utf8.decode s pos).2 = K := ⟨_, rfl⟩
        rw [hR, hK] at HST
        rw [hR] at hd1
        rw [hK] at hwd hw4 hit2 hbw2 hOW2
        rw [hR, hK] at hnx
        clear hR hK
        obtain ⟨V, hV⟩ : ∃ V, wr.iterAt W3.heap.size s (pos + K) = V := ⟨_, rfl⟩
        rw [hV] at hnx hit2 hbw2 hOW2
        clear hV
        obtain ⟨A2, kc2, rfl⟩ := sr_shape hOW2
        have HI2 := Lib.hid hit2
        have HI := Lib.hid hit
        have HRA := Lib.hid (sr_at hOW2)
        have HOW2 := Lib.hid hOW2
        have HBV := Lib.hid hbw2
        have hVs : W3.heap.size + 1 ≤ V.heap.size := lt_of_block hit2
        have HFR := Lib.hid (row_fresh V (.int .i32 (R : Int)) hVs)
        have HAPP : Hid ((R :: O).reverse ++ rnsOf (s.data.toList.drop (pos + K)) = ALL) := Lib.hid (by have h1 := HC.out; rw [HST.out] at h1; simpa using h1)
        clear hit hit2 hbw hOW2 hbw2 HOW
        cases O with
        | nil =>
          obtain ⟨rfl, rfl⟩ : A2 = none ∧ kc2 = 0 := by
            have h1 := hnil rfl
            injection h1 with h1 h2 h3
            exact ⟨h1, h3⟩
          have hit4 : (V.alloc (.cells #[.int .i32 (R : Int)] 21)).heap[W3.heap.size]? = some (.stringIter s (pos + K)) := (Below.heap_alloc V _ _ (by omega)).trans HI2.out
          have HI4 := Lib.hid hit4
          have hl0 : ([] : List Nat).length = 0 := rfl
          rw [hl0]
          clear hit4 hnil
          go_wp2
          refine ⟨⟨pos + K, [R], HFR.out, HI4.out, by omega, by simp; omega, (fun y => by cases y), HBV.out.alloc (by omega) _, HAPP.out⟩, ?_⟩
          have h1 := HI.out; have h2 := HI4.out
          rw [iterPos_of h2, iterPos_of h1]
          omega
        | cons y O =>
          obtain ⟨g2, rfl⟩ : ∃ g2, A2 = some ⟨g2, 0, none⟩ := by
            rcases HOW2.out.2 with ⟨hv, h0⟩ | ⟨g, cap, cur, hv, _⟩
            · simp at h0
            · injection hv with h1; exact ⟨g, h1⟩
          have hg2 := (sr_is HOW2.out rfl).2
          clear hnil
          have hcells : ∀ (j : Nat) (u : Value), (rcells (y :: O))[j]? = some u → (V.alloc (.cells #[.int .i32 (R : Int)] 21)).cell? ((⟨g2, 0, none⟩ : Addr).add j) = some u := by
            intro j u hu
            rw [sr_add, Nat.zero_add]
            have hjl : j < (y :: O).length := by have := (List.getElem?_eq_some_iff.1 hu).1; simpa [rcells] using this
            have h1 := HOW2.out.cellAt j (by omega)
            rw [hu] at h1
            exact (((Below.refl V.heap.size V).alloc (Nat.le_refl _) _).cell (p := ⟨g2, j, none⟩) hg2).trans h1
          have HCE := Lib.hid hcells
          clear hcells
          obtain ⟨m, hm⟩ : ∃ m, (y :: O).length = m := ⟨_, rfl⟩
          have HM := Lib.hid hm
          have hmp : m ≤ pos := by omega
          rw [hm]
          clear hm hOl
          go_wp2_with (at_builtin; refine wpList_append_own_at _ rfl _ _ 24 rfl (W3.heap.size + 1) 21 i0 (.int .i32 0) 1 4 Tryd.underlying24 hi hz0 hz1 hz2 rfl (by decide) (.slice (some ⟨V.heap.size, 0, none⟩) 1 1) 1 [.int .i32 (R : Int)] rfl HFR.out ⟨g2, 0, none⟩ m kc2 (rcells (y :: O)) rfl (by rw [rcells_length, HM.out, Nat.mul_one]) HCE.out (by intro u hu; simp [rcells] at hu; rcases hu with rfl | ⟨_, _, rfl⟩ <;> rfl) (by unfold maxLen; omega) (by omega) (by simp; omega) ?_)
          intro v' w2 hown2 hgr _ _
          obtain ⟨A3, kc3, rfl⟩ := sr_shape hown2
          have HROW2 : Hid (w2.ownsRow (W3.heap.size + 1) 21 1 (.slice A3 (1 + m) kc3) (R :: y :: O).length (rcells (R :: y :: O))) := Lib.hid (by
            have e1 : (R :: y :: O).length = 1 + m := by rw [← HM.out]; simp; omega
            rw [e1]
            exact hown2)
          have hit4 : w2.heap[W3.heap.size]? = some (.stringIter s (pos + K)) := ((hgr.block _ (by simp; omega) (fun e => by have h9 : W3.heap.size = V.heap.size := Option.some.inj e; omega)).trans (Below.heap_alloc V _ _ (by omega))).trans HI2.out
          have HI4 := Lib.hid hit4
          have HB10 := Lib.hid ((HBV.out.alloc (by omega) _).grown hgr (by simp; omega) (fun k hk => by have h9 : V.heap.size = k := Option.some.inj hk; omega))
          have hml : (R :: y :: O).length = 1 + m := by rw [← HM.out]; simp; omega
          have HML := Lib.hid hml
          clear hit4 hgr hown2 hml
          go_wp2
          go_roundw
          case rel =>
            exact ⟨pos + K, R :: y :: O, HROW2.out, HI4.out, by omega, by rw [HML.out]; omega, (fun y => by cases y), HB10.out, HAPP.out⟩
          case measure =>
            have h1 := HI.out; have h2 := HI4.out
            rw [iterPos_of h2, iterPos_of h1]
            omega
      · have hnx : ∀ ty, (Instr.next (.pointer (some ⟨W3.heap.size, 0, none⟩)) true ty).run Tryd.prog wr = _ := fun ty => Lib.run_next_end_at wr W3.heap.size s pos ty hit hp
        have e0 : s.data.toList.drop pos = [] := List.drop_eq_nil_of_le (by rw [← Lib.size_eq]; omega)
        have hO : textOf O = ⟨(revB s.data.toList).toArray⟩ := by
          have h1 := HC.out
          rw [e0] at h1
          rw [← HRT.out, HA.out, ← h1]
          simp [rnsOf, segs_nil]
        obtain ⟨A2, kc2, rfl⟩ := sr_shape HOW.out
        have hcv := conv_text A2 kc2 _ wr (sr_at HOW.out)
        rw [hO] at hcv
        have HCV := Lib.hid hcv
        have HBF := Lib.hid (bthen HB3.out hbw)
        clear e0 hO hbw HC hcv
        go_wp2_with fail
        rw [HCV.out]
        go_wp2
        go_ret2
        exact ⟨.inr ⟨rfl, HV.out⟩, HBF.out⟩
end Go.Proofs.YtobcoplfniojkaaDoor
