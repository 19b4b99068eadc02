/- The walk of spec.Delete. -/
import Derived.Test.YtdgaehkfdaacjaaDoorSetHas
import Derived.Test.YtdgaehkfdaacjaaDoorPatAny
import Derived.Test.YtdgaehkfdaacjaaDoorRunesText
import Derived.LoopTactic
set_option linter.unusedVariables false
namespace Go.Proofs.YtdgaehkfdaacjaaDoor
open Go.RowKit Plain

theorem rnsL_step (s : ByteArray) (pos : Nat) (hp : pos < s.size) : rnsL (s.data.toList.drop pos) = (Utf8.decode s pos).1 :: rnsL (s.data.toList.drop (pos + (Utf8.decode s pos).2)) := by
  have hne : s.data.toList.drop pos ≠ [] := by
    intro e
    have := congrArg List.length e
    rw [List.length_drop, ← Lib.size_eq] at this
    simp at this
    omega
  unfold rnsL
  rw [segs_step _ hne, List.map_cons, List.drop_drop, Lib.decodeL_drop]
  congr 1
  unfold runeOf
  have := decodeL_take _ hne
  rw [Lib.decodeL_drop] at this
  rw [this]
def sdR (L : List Nat) (nt : Bool) (rs : List Nat) : List Nat := rs.filter fun r => !inB L nt r
theorem sdR_in {L : List Nat} {nt : Bool} {r : Nat} (rs : List Nat) (h : inB L nt r = true) : sdR L nt (r :: rs) = sdR L nt rs := by simp [sdR, h]
theorem sdR_out {L : List Nat} {nt : Bool} {r : Nat} (rs : List Nat) (h : inB L nt r = false) : sdR L nt (r :: rs) = r :: sdR L nt rs := by simp [sdR, h]
theorem sdR_text (L : List Nat) (nt : Bool) (l : List UInt8) (hv : Lib.validD l = true) : textOf (sdR L nt (rnsL l)) = ⟨(sdl L nt l).toArray⟩ := by
  have e : sdR L nt (rnsL l) = ((segs l).filter fun c => !inB L nt (runeOf c)).map runeOf := by
    unfold sdR rnsL
    rw [List.filter_map]
    rfl
  apply ByteArray.ext
  apply Array.toList_inj.1
  rw [e, textOf_good _ (fun c hc => segs_good l hv c (List.mem_filter.1 hc).1)]
  rfl
/-- the answer of spec.Delete -/
def DelAns (P s : ByteArray) (e : Ending) : Prop :=
  (∃ z, e = .returned (.tuple #[.string z, .int .i64 2])) ∨ ∃ L nt, e = .returned (.tuple #[.string ⟨(sdl L nt s.data.toList).toArray⟩, .int .i64 1]) ∧ Lib.validD P.data.toList = true ∧ Lib.validD s.data.toList = true ∧ patS false (rnsL P.data.toList) = some (L, nt)
set_option maxHeartbeats 16000000 in
set_option maxRecDepth 100000 in
theorem specDelete_any (s P : ByteArray) (w : World) (hs : s.size ≤ 2000) (hP : P.size ≤ 2000) (hT : Tabs w) :
    Calls Tryd.prog 17 #[.string s, .string P] w fun e w' => DelAns P s e ∧ Below w.heap.size w w' := by
  obtain ⟨i0, hi, hz0, hz1, hz2⟩ := info_parts infoRune
  have HPt := Lib.hid (fun w hT => pattern_any P false w hP hT)
  obtain ⟨vs, hvs⟩ : ∃ vs, Lib.validD s.data.toList = vs := ⟨_, rfl⟩
  have HS := Lib.hid (fun w g hg hT => set_lit w g hg s hs hT vs hvs)
  have HV := Lib.hid hvs
  clear hvs hP
  go_enter Tryd.func17, Tryd.ntmps17
  go_wp2_with (go_at_call 25; with_reducible refine (HPt.out _ hT).mono ?_)
  rintro e w1 ⟨h, hb⟩
  rcases h with ⟨⟨A, n, c, b, rfl⟩, _⟩ | ⟨L, nt, A, cap, rfl, hvp, hpat, b0, hb0, hown⟩
  · dsimp only
    go_wp2
    go_ret2
    exact ⟨.inl ⟨_, rfl⟩, hb.alloc hb.size _⟩
  · dsimp only
    have HPA := Lib.hid hpat
    have HVP := Lib.hid hvp
    have hlim := row_len hown
    obtain ⟨W2, hW2⟩ : ∃ W2, w1.alloc (.cells #[.slice A L.length cap, .bool nt] 40) = W2 := ⟨_, rfl⟩
    have hB2 : Below w.heap.size w W2 := hW2 ▸ hb.alloc hb.size _
    have hX2 : W2.heap[w1.heap.size]? = some (.cells #[.slice A L.length cap, .bool nt] 40 (0, 0)) := hW2 ▸ heap_alloc_new w1 _
    have hO2 : W2.ownsRow b0 21 1 (.slice A L.length cap) L.length (L.map rcell) := hW2 ▸ hown.alloc _
    have hz2 : W2.heap.size = w1.heap.size + 1 := by rw [← hW2]; simp
    have HZ2 := Lib.hid hz2
    have HB2 := Lib.hid hB2
    have HX2 := Lib.hid hX2
    have HO2 := Lib.hid hO2
    have hT2 := hT.below hB2
    clear hb hb0 hown hpat hvp hB2 hX2 hO2 hz2
    cases vs with
    | false =>
      go_wp2_with (go_at_call 30; (with_reducible refine (HS.out _ _ rfl hT2).mono ?_); rintro e W3 ⟨rfl, hb3⟩; dsimp only)
      have hB3 := bthen HB2.out hb3
      go_wp2
      go_ret2
      exact ⟨.inl ⟨_, rfl⟩, hB3⟩
    | true =>
      go_wp2_with (go_at_call 30; (with_reducible refine (HS.out _ _ rfl hT2).mono ?_); rintro e W3 ⟨rfl, hb3⟩; dsimp only)
      have hB3 := bthen HB2.out hb3
      have hX3 : W3.heap[w1.heap.size]? = some (.cells #[.slice A L.length cap, .bool nt] 40 (0, 0)) := (hb3.block _ (by rw [HZ2.out]; omega)).trans HX2.out
      have hO3 : W3.ownsRow b0 21 1 (.slice A L.length cap) L.length (L.map rcell) := row_keep HO2.out fun g hg => by
        refine hb3.block g ?_
        obtain ⟨_, cs, hcs⟩ := row_is HO2.out hg
        exact (Array.getElem?_eq_some_iff.1 hcs).1
      have HX3 := Lib.hid hX3
      have HO3 := Lib.hid hO3
      have HB3 := Lib.hid hB3
      have hxlt := lt_of_block hX3
      clear hX3 hO3 hb3 hB3
      clear hW2 HX2 HO2 HZ2 HB2 hT2
      go_wp2
      go_loopw [8, 10] (fun ov cv wr => ∃ (pos : Nat) (O : List Nat), wr.ownsRow (W3.heap.size + 1) 21 1 ov O.length (O.map rcell) ∧ wr.heap[W3.heap.size]? = some (.stringIter s pos) ∧ pos ≤ s.size + 4 ∧ O.length ≤ pos ∧ Below W3.heap.size W3 wr ∧ O ++ sdR L nt (rnsL (s.data.toList.drop pos)) = sdR L nt (rnsL s.data.toList)) (fun _ _ wr => s.size + 4 - wr.iterPos W3.heap.size)
      case atStart => exact ⟨0, [], World.ownsRow_nil _ _ _ _, World.iter_heap W3 s 0, by omega, by simp, (Below.refl _ W3).alloc (Nat.le_refl _) _, by simp⟩
      case round =>
        obtain ⟨pos, O, how, hit, hps, hOl, hbw, hal⟩ := hrel
        have HC := Lib.hid hal
        have HOW := Lib.hid how
        clear hal how
        by_cases hp : pos < s.size
        · have hnx : ∀ ty, (Instr.next (.pointer (some ⟨W3.heap.size, 0, none⟩)) true ty).run Tryd.prog wr = _ := fun ty => Lib.run_next_any_at wr W3.heap.size s pos ty hit hp
          have hwd := Lib.decode_width_pos s pos hp
          have hd1 := decode_le s pos
          have hw4 : (Utf8.decode s pos).2 ≤ 4 := by rw [Lib.decode_at]; unfold Lib.decodeN; (repeat' split) <;> simp
          have hit2 := Lib.iterAt_heap wr W3.heap.size s pos (pos + (Utf8.decode s pos).2) hit
          have hbw2 := Lib.below_iterAt hbw (k := W3.heap.size) (Nat.le_refl _) s (pos + (Utf8.decode s pos).2)
          have hOW2 : (wr.iterAt W3.heap.size s (pos + (Utf8.decode s pos).2)).ownsRow (W3.heap.size + 1) 21 1 _ O.length (O.map rcell) := row_keep HOW.out fun g hg => iter_other wr _ _ _ (by have := (row_is HOW.out hg).1; omega)
          have HST := Lib.hid (rnsL_step s pos hp)
          obtain ⟨R, hR⟩ : ∃ R, (Utf8.decode s pos).1 = R := ⟨_, rfl⟩
          obtain ⟨K, hK⟩ : ∃ K, (Utf8.decode s pos).2 = K := ⟨_, rfl⟩
          rw [hR, hK] at HST
          rw [hR] at hd1
          rw [hK] at hwd hw4 hit2 hbw2 hOW2
          rw [hR, hK] at hnx
          clear hR hK
          obtain ⟨V, hV⟩ : ∃ V, wr.iterAt W3.heap.size s (pos + K) = V := ⟨_, rfl⟩
          rw [hV] at hnx hit2 hbw2 hOW2
          clear hV
          obtain ⟨A2, kc2, rfl⟩ := row_shape hOW2
          have HI2 := Lib.hid hit2
          have HI := Lib.hid hit
          have hVs : W3.heap.size < V.heap.size := lt_of_block hit2
          have hxc : V.heap[w1.heap.size]? = some (.cells #[.slice A L.length cap, .bool nt] 40 (0, 0)) := (hbw2.block _ hxlt).trans HX3.out
          obtain ⟨c0, c1, _, _⟩ := two_cells hxc
          have HOV : Hid (V.ownsRow b0 21 1 (.slice A L.length cap) L.length (L.map rcell)) := Lib.hid (row_keep HO3.out fun g hg => by
            refine hbw2.block g ?_
            obtain ⟨_, cs, hcs⟩ := row_is HO3.out hg
            exact (Array.getElem?_eq_some_iff.1 hcs).1)
          have HOW2 := Lib.hid hOW2
          have HBV := Lib.hid hbw2
          clear hit hit2 hbw hOW2 hbw2 hxc HOW
          have hR0 : (0 : Int) ≤ (R : Int) := by omega
          obtain ⟨bi, hbi⟩ : ∃ bi, inB L nt R = bi := ⟨_, rfl⟩
          have HH := Lib.hid (setHas_any L nt R A cap b0 V HOV.out hlim bi hbi)
          have HBI := Lib.hid hbi
          clear hbi
          cases bi with
          | true =>
            go_wp2_with (go_at_call 31; (with_reducible refine HH.out.mono ?_); rintro e V2 ⟨rfl, hbv⟩; dsimp only)
            have hit3 := (hbv.block _ hVs).trans HI2.out
            have HROW : Hid (V2.ownsRow (W3.heap.size + 1) 21 1 (.slice A2 O.length kc2) O.length (O.map rcell)) := Lib.hid (row_keep HOW2.out fun g hg => by
              refine hbv.block g ?_
              obtain ⟨_, cs, hcs⟩ := row_is HOW2.out hg
              exact (Array.getElem?_eq_some_iff.1 hcs).1)
            have HI3 := Lib.hid hit3
            have HB9 := Lib.hid (bthen HBV.out hbv)
            clear hit3 hbv
            go_wp2
            go_roundw
            case rel =>
              refine ⟨pos + K, O, HROW.out, HI3.out, by omega, by omega, HB9.out, ?_⟩
              have := HC.out
              rw [HST.out, sdR_in _ HBI.out] at this
              exact this
            case measure =>
              have h1 := HI.out; have h2 := HI3.out
              rw [iterPos_of h2, iterPos_of h1]
              omega
          | false =>
            go_wp2_with (go_at_call 31; with_reducible refine HH.out.mono ?_)
            rintro e V2 ⟨rfl, hbv⟩
            dsimp only
            have hit3 := (hbv.block _ hVs).trans HI2.out
            have HROW : Hid (V2.ownsRow (W3.heap.size + 1) 21 1 (.slice A2 O.length kc2) O.length (O.map rcell)) := Lib.hid (row_keep HOW2.out fun g hg => by
              refine hbv.block g ?_
              obtain ⟨_, cs, hcs⟩ := row_is HOW2.out hg
              exact (Array.getElem?_eq_some_iff.1 hcs).1)
            have HI3 := Lib.hid hit3
            have HB9 := Lib.hid (bthen HBV.out hbv)
            have hVs2 : W3.heap.size + 1 ≤ V2.heap.size := lt_of_block hit3
            clear hit3 hbv
            go_wp2_with (at_builtin; refine wpList_append_own_at _ rfl _ _ 33 rfl (W3.heap.size + 1) 21 i0 (.int .i32 0) 1 4 Tryd.underlying33 hi hz0 hz1 hz2 rfl (by decide) (.slice A2 O.length kc2) O.length (O.map rcell) rfl (HROW.out.alloc _) ⟨V2.heap.size, 0, none⟩ 1 1 [.int .i32 (R : Int)] rfl rfl (cell_one_new _ _ _) (by intro u hu; simp at hu; subst hu; rfl) (by unfold maxLen; omega) (by omega) (by simp; omega) ?_)
            intro v' w2 hown2 hgr _ _
            obtain ⟨A3, kc3, rfl⟩ := row_shape hown2
            have HROW2 : Hid (w2.ownsRow (W3.heap.size + 1) 21 1 (.slice A3 (O.length + 1) kc3) (O ++ [R]).length ((O ++ [R]).map rcell)) := Lib.hid (by rw [List.length_append, List.map_append]; exact hown2)
            have hne : ∀ k, k ≤ W3.heap.size → some k ≠ (Value.slice A2 O.length kc2).ownBlock := fun k hk e => by have := (row_is HROW.out e.symm).1; omega
            have hit4 := ((hgr.block _ (by simp; omega) (hne _ (Nat.le_refl _))).trans (Below.heap_alloc V2 _ _ (by omega))).trans HI3.out
            have HI4 := Lib.hid hit4
            have hB10 := (HB9.out.alloc (by omega) _).grown hgr (by simp; omega) (fun k hk => by have := (row_is HROW.out hk).1; omega)
            have HB10 := Lib.hid hB10
            clear hB10 hit4 hgr hne hown2
            go_wp2
            go_roundw
            case rel =>
              refine ⟨pos + K, O ++ [R], HROW2.out, HI4.out, by omega, by simp; omega, HB10.out, ?_⟩
              have := HC.out
              rw [HST.out, sdR_out _ HBI.out] at this
              simpa using this
            case measure =>
              have h1 := HI.out; have h2 := HI4.out
              rw [iterPos_of h2, iterPos_of h1]
              omega
        · have hnx : ∀ ty, (Instr.next (.pointer (some ⟨W3.heap.size, 0, none⟩)) true ty).run Tryd.prog wr = _ := fun ty => Lib.run_next_end_at wr W3.heap.size s pos ty hit hp
          have e0 : s.data.toList.drop pos = [] := List.drop_eq_nil_of_le (by rw [← Lib.size_eq]; omega)
          have hcv := conv_own HOW.out
          have hO : O = sdR L nt (rnsL s.data.toList) := by
            have := HC.out
            rw [e0] at this
            simpa [rnsL, segs_nil, sdR] using this
          rw [hO, sdR_text L nt _ HV.out] at hcv
          have HB9 := Lib.hid (bthen HB3.out hbw)
          obtain ⟨A2, kc2, rfl⟩ := row_shape HOW.out
          clear e0 hO hbw HOW HC
          go_wp2
          go_ret2
          exact ⟨.inr ⟨L, nt, rfl, HVP.out, HV.out, HPA.out⟩, HB9.out⟩
end Go.Proofs.YtdgaehkfdaacjaaDoor
