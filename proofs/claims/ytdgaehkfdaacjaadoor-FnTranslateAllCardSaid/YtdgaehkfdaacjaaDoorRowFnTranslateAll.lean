/- FnTranslateAll: the row of the law, out of its walk, and the card tied to the program's text: whatever the input, the law answers true. -/
import Derived.Test.YtdgaehkfdaacjaaDoorRows
import Derived.Test.YtdgaehkfdaacjaaDoorFnTranslateAll
import Derived.WalkKit
import Derived.ProofKit
import Derived.OpenShut
import Derived.ShutString
import Derived.ChangeOld
import Derived.Below
import Derived.SizedLaws
import Derived.SliceStrings
import Derived.Carry
import Derived.Test.YtdgaehkfdaacjaaDoorLaidU
import Derived.Lay
import Derived.Test.YtdgaehkfdaacjaaDoorCards
import Derived.Test.YtdgaehkfdaacjaaDoorTie
import Derived.SevenTiedAt
namespace Go.Proofs.YtdgaehkfdaacjaaDoor.fnTranslateAll
open Go.ChangeShapes Go.WideShapes Go.ChangeAt Go.RowKit
open Go.ChangeMaps (open_string shut_string)
set_option linter.unusedVariables false
theorem own : ownKnob Tryd.prog.godebug = none := by kernel_rfl
theorem laidOut : laidOutB Tryd.prog = true := by kernel_rfl
def laid : List (String × DataW Unit) := [("unicode/utf8.acceptRanges", Rows.laid_unicode_utf8_acceptRanges), ("unicode/utf8.first", Rows.laid_unicode_utf8_first)]
set_option maxRecDepth 100000 in
set_option maxHeartbeats 1000000 in
theorem lifted (os : Os) (started : os.Started) (H : Type) (enc : TypeId × Value → H) :
    ReturnsInHanded {} Tryd.checked os 7 .any (fun w args => (Rows.fnTranslateAllSpec.pre enc Tryd.prog Tryd.f7 [] false w args ∧ laidMetH Tryd.prog laid w) ∧ sizedMet enc Tryd.prog Tryd.f7 (OpenSpec.ofChange Rows.fnTranslateAllSpec) false w args)
      (Rows.fnTranslateAllSpec.post enc Tryd.prog Tryd.f7 false true false false) := by
  refine returnsInHanded_of_change_and (C := Tryd.checked) (X := fun w _ => laidMetH Tryd.prog laid w) (fun _ _ _ hh h => h.of_heap hh) own started (by kernel_rfl) Tryd.func7
    (ChangeSpec.witness_shaped (enc := enc) (C := Tryd.checked) (os := os) (X := fun w _ => laidMetH Tryd.prog laid w) false (World.laidAll Tryd.prog os laid) #[.string ByteArray.empty, .string ByteArray.empty, .slice none 0 0] 8 (World.laidAll_os _ _ _)
      (World.shaped_of_ZipB (by kernel_rfl) (by kernel_rfl)) (by kernel_rfl) (by kernel_rfl) (by kernel_rfl)
      (by rw [MakeChecks.laidMetH_plain _ _ _ (by kernel_rfl)]; exact laidMet_laidAll _ (by kernel_rfl) (by kernel_rfl))) ?_
  intro W base args ds gs before hval0 hW hcnd hsz0 hL _
  have hsz : (DataW.weightsEach Tryd.prog (Tryd.f7.params.toList ++ Rows.fnTranslateAllSpec.plain.varTypes Tryd.prog) (ds ++ gs)).all (· ≤ reachBytes) = true := hsz0
  have hval : ∀ (j : Nat) t v, Tryd.f7.params[j]? = some t → args[j]? = some v → Value.okWide Tryd.prog W .any base t v := hval0
  have hW' := hW
  obtain ⟨p, q, hA0, hV, rfl, hfz, hnd⟩ := hW
  have hA : DataW.TrodAll enc Tryd.prog W 0 (fun _ => true) true Tryd.f7.params.toList args.toList ds p := hA0
  rw [Tryd.params7] at hA hval hsz
  obtain ⟨v0, vs0, d0, ds0, p0, q0, hargs, rfl, rfl, h0, r0⟩ := trodAll_cons hA
  obtain ⟨v1, vs1, d1, ds1, p1, q1, rfl, rfl, rfl, h1, r1⟩ := trodAll_cons r0
  obtain ⟨v2, vs2, d2, ds2, p2, q2, rfl, rfl, rfl, h2, r2⟩ := trodAll_cons r1
  obtain ⟨rfl, rfl, rfl⟩ := trodAll_nil r2
  obtain rfl : args = #[v0, v1, v2] := by cases args; simp_all
  obtain ⟨rfl, rfl⟩ := trodVars_none hV
  obtain ⟨a0, rfl, rfl, rfl, y0⟩ := open_string Tryd.underlying9 (hval 0 9 v0 rfl rfl) h0
  have w0 : a0.size ≤ 140737488351232 := by
    have z := sized_string hsz (j := 0) (t := 9) rfl rfl
    rw [Array.length_toList] at z
    exact z
  obtain ⟨a1, rfl, rfl, rfl, y1⟩ := open_string Tryd.underlying9 (hval 1 9 v1 rfl rfl) h1
  have w1 : a1.size ≤ 140737488351232 := by
    have z := sized_string hsz (j := 1) (t := 9) rfl rfl
    rw [Array.length_toList] at z
    exact z
  obtain ⟨a2, len2, cap2, rfl⟩ := okWide_slice Tryd.underlying35 (hval 2 35 v2 rfl rfl)
  have k2 := h2
  have lt2 : ∀ x ∈ p2, x.block < W.heap.size := by obtain ⟨m, hm⟩ := k2; exact DataW.trod_lt m _ _ _ hm
  obtain ⟨z2, hk2, hl2, hc2, hm2⟩ : ∃ zs : List ByteArray, RowA a2 zs W ∧ zs.length = len2 ∧ len2 ≤ cap2 ∧ len2 ≤ 9223372036854775807 := by
    obtain ⟨fuel, hf⟩ := h2
    rcases open_strings Tryd.underlying35 Tryd.underlying9 (by kernel_rfl) hf with ⟨hcs, _⟩ | ⟨x, l, c, ss, hcs, _, hl, hm, hz, _, hcell, hsz⟩
    · simp [Value.cells] at hcs
      obtain ⟨rfl, rfl, rfl⟩ := hcs
      exact ⟨[], rowA_nil _ _, rfl, Nat.le_refl _, by omega⟩
    · simp [Value.cells] at hcs
      obtain ⟨rfl, rfl, rfl⟩ := hcs
      have hz2 : ss.length = cap2 := by simpa using hz
      have hz3 : (ss.take len2).length = len2 := by rw [List.length_take]; omega
      refine ⟨ss.take len2, rowA_addr (fun j y hy => ?_), hz3, hl, by unfold maxLen at hm; omega⟩
      have hj : j < len2 := by have := (List.getElem?_eq_some_iff.1 hy).1; omega
      rw [List.getElem?_take_of_lt hj] at hy
      rw [hcell j (by omega)]
      simp [List.getD, hy]
  clear hA0 hval0 hsz0 hsz
  rw [MakeChecks.laidMetH_plain _ _ _ (by kernel_rfl)] at hL
  have hT : Tabs W := tabs_of_laid hL (by simp [laid]) (by simp [laid])
  refine (fnTranslateAll_walk a0 a1 a2 len2 cap2 z2 W w0 w1 hk2 hl2 hc2 hm2 hT).mono fun e W' ⟨he, bel⟩ => ?_
  subst he
  exact ⟨_, rfl, _, _, _, [], _, [], hW', trodAll_mk1 (shut_bool Tryd.underlying4 _), (trodAll_cons_mk (shut_string Tryd.underlying9 y0) (trodAll_cons_mk (shut_string Tryd.underlying9 y1) (trodAll_cons_mk (Below.trod laidOut (by kernel_rfl) (of_decide_eq_true (by kernel_rfl)) k2 bel lt2) trodAll_mk0))), rfl, bel.frame _, fun h => by cases h⟩
theorem over : Rows.fnTranslateAllRow.holds Tryd.pinned (OpenSpec.ofChange Rows.fnTranslateAllSpec) :=
  OpenClaim.holds_of_wide 7 Tryd.f7 rfl rfl rfl rfl rfl rfl rfl ⟨rfl, rfl, rfl, rfl, rfl⟩ rfl rfl rfl rfl rfl (by kernel_rfl) Tryd.func7 (by kernel_rfl)
    (of_decide_eq_true (by kernel_rfl)) (by unfold Func.isWrapper; first | (rw [if_pos (by decide +kernel)]; kernel_rfl) | (rw [if_neg (by decide +kernel)]; exact ⟨rfl, rfl⟩))
    (fun os started H enc _ => lifted os started H enc)
theorem card_holds : Rows.FnTranslateAllCardSaid :=
  Claim7.holds_tied_plain_at .later [] [.data, .pinned] true (true, "ef6ec20c14562ee70fb45d03414f27c7f59d7964f210b39fa14d3735edb8f6d7") false over (fun _ h => by cases h) (by kernel_rfl) (fun _ h => by cases h) fnTranslateAll_row_tie rfl ⟨rfl, rfl⟩ (by kernel_rfl) rfl
    (fun f fn hf hfn => by
      obtain rfl : f = 7 := Option.some.inj ((show Tryd.prog.funcNamed "pub-pencraft/laws.FnTranslateAll" = some 7 by kernel_rfl).symm.trans hf) |>.symm
      obtain rfl : fn = Tryd.f7 := (Option.some.inj (Tryd.func7.symm.trans hfn)).symm
      exact ⟨by kernel_rfl, fun j t ht => by
        rw [Tryd.params7] at ht
        have hm : t ∈ [9, 9, 35] := by simpa using Array.mem_of_getElem? ht
        have hall : ([9, 9, 35].all fun u => !Tryd.prog.wantsStandIn u) = true := by kernel_rfl
        exact (show Tryd.prog.wantsStandIn t = false by simpa using List.all_eq_true.1 hall t hm)⟩)
    (by kernel_rfl)
end Go.Proofs.YtdgaehkfdaacjaaDoor.fnTranslateAll
namespace Go.Proofs.YtdgaehkfdaacjaaDoor
/-- The statement, under a short name, for the claim. -/
theorem fnTranslateAll_holds : Rows.FnTranslateAllCardSaid := fnTranslateAll.card_holds
#print axioms fnTranslateAll_holds
end Go.Proofs.YtdgaehkfdaacjaaDoor
