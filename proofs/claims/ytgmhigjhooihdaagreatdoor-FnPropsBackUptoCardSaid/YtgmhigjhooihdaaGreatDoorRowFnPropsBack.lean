/- FnPropsBack: the row of the law, out of its walk, and the card tied to the program's text: whatever the input, the law answers true. -/
import Derived.Test.YtgmhigjhooihdaaGreatDoorRows
import Derived.Test.YtgmhigjhooihdaaGreatDoorFnPropsBack
import Derived.WalkKit
import Derived.ProofKit
import Derived.OpenShut
import Derived.ShutString
import Derived.ChangeOld
import Derived.Below
import Derived.SizedLaws
import Derived.SliceStrings
import Derived.Carry
import Derived.Test.YtgmhigjhooihdaaGreatDoorLaidW
import Derived.Lay
import Derived.Test.YtgmhigjhooihdaaGreatDoorCards
import Derived.Test.YtgmhigjhooihdaaGreatDoorTie
import Derived.SevenTiedAt
import Derived.Test.YtgmhigjhooihdaaGreatDoorPropU
import Derived.Deep.DeepHandedRow
namespace Go.Proofs.YtgmhigjhooihdaaGreatDoor.fnPropsBack
open Go.ChangeShapes Go.WideShapes Go.ChangeAt Go.RowKit
open Go.ChangeMaps (open_string shut_string)
set_option linter.unusedVariables false
theorem upto_le {H : Type} {l : List (DataW H)} {d : DataW H} (hk : Rows.uptoSmall H l = true) (h : d ∈ l) : Rows.uptoBulk d ≤ 1048576 := Nat.le_trans (bulk_mem h) (of_decide_eq_true hk)
theorem own : ownKnob Tryz.prog.godebug = none := by kernel_rfl
theorem laidOut : laidOutB Tryz.prog = true := by kernel_rfl
def laid : List (String × DataW Unit) := [("math/bits.deBruijn32tab", Rows.laid_math_bits_deBruijn32tab), ("math/bits.deBruijn64tab", Rows.laid_math_bits_deBruijn64tab), ("internal/strconv.uint64pow10", Rows.laid_internal_strconv_uint64pow10), ("unicode/utf8.acceptRanges", Rows.laid_unicode_utf8_acceptRanges), ("strconv.ErrRange", Rows.laid_strconv_ErrRange), ("strconv.ErrSyntax", Rows.laid_strconv_ErrSyntax), ("unicode.White_Space", Rows.laid_unicode_White_Space), ("unicode/utf8.first", Rows.laid_unicode_utf8_first)]
set_option maxRecDepth 100000 in
set_option maxHeartbeats 1000000 in
theorem lifted (os : Os) (started : os.Started) (H : Type) (enc : TypeId × Value → H) (F : Stop.Interp) :
    ReturnsInHanded {} Tryz.checked os 6 .any ((Rows.OpenSpec.upto Rows.fnPropsBackSpec).preRow enc Tryz.prog Tryz.f6 Rows.fnPropsBackUptoRow.domain false Rows.fnPropsBackUptoRow.laid) (((Rows.OpenSpec.upto Rows.fnPropsBackSpec).at F).post enc Tryz.prog Tryz.f6 false true false false) := by
  have hl0 : laidMet Tryz.prog Rows.fnPropsBackUptoRow.laid ((World.laidAll Tryz.prog os Rows.fnPropsBackUptoRow.laid).forCall (fun _ _ => 0) ⟨#[], #[.slice none 0 0, .int .u8 0, .bool false, .bool false], []⟩).memory := laidMet_laidAll _ (by kernel_rfl) (by kernel_rfl)
  have hx : DataW.whole enc Tryz.prog ((World.laidAll Tryz.prog os Rows.fnPropsBackUptoRow.laid).forCall (fun _ _ => 0) ⟨#[], #[.slice none 0 0, .int .u8 0, .bool false, .bool false], []⟩).memory Tryz.f6.params.toList Rows.fnPropsBackSpec.vars false (#[.slice none 0 0, .int .u8 0, .bool false, .bool false] : Array Value).toList 8 = some ([.nil, .lit (.int .u8 0), .lit (.bool false), .lit (.bool false)], [], []) := by kernel_rfl
  refine returnsInHanded_of_row (C := Tryz.checked) (s := Rows.OpenSpec.upto Rows.fnPropsBackSpec) own started (by kernel_rfl) Tryz.func6
    ⟨World.laidAll Tryz.prog os Rows.fnPropsBackUptoRow.laid, fun _ _ => 0, ⟨#[], #[.slice none 0 0, .int .u8 0, .bool false, .bool false], []⟩, World.laidAll_os _ _ _, World.shaped_of_ZipB (by kernel_rfl) (by kernel_rfl), rfl, (Input.okWide_of_okWideB (by kernel_rfl)).2,
      OpenSpec.preRow_of_cond 8 hx (by kernel_rfl) (fun k hk => by cases hk; kernel_rfl) (by kernel_rfl) (by rw [MakeChecks.laidMetH_plain _ _ _ (by kernel_rfl)]; exact hl0), by
      simp only [Assume.holds]
      exact ⟨by simp, by simp, fun _ => Modest.zero, by simp, by simp⟩⟩ ?_
  intro W base args ds gs before hval0 hW hcnd hkk0 hsz0 hL hshp _
  have hkk : Rows.uptoSmall H (ds ++ gs) = true := hkk0 _ rfl
  have hsz : (DataW.weightsEach Tryz.prog (Tryz.f6.params.toList ++ Rows.fnPropsBackSpec.plain.varTypes Tryz.prog) (ds ++ gs)).all (· ≤ reachBytes) = true := hsz0
  have hval : ∀ (j : Nat) t v, Tryz.f6.params[j]? = some t → args[j]? = some v → Value.okWide Tryz.prog W .any base t v := hval0
  have hW' := hW
  obtain ⟨p, q, hA0, hV, rfl, hfz, hnd⟩ := hW
  have hA : DataW.TrodAll enc Tryz.prog W 0 (fun _ => true) true Tryz.f6.params.toList args.toList ds p := hA0
  rw [Tryz.params6] at hA hval hsz
  obtain ⟨v0, vs0, d0, ds0, p0, q0, hargs, rfl, rfl, h0, r0⟩ := trodAll_cons hA
  obtain ⟨v1, vs1, d1, ds1, p1, q1, rfl, rfl, rfl, h1, r1⟩ := trodAll_cons r0
  obtain ⟨v2, vs2, d2, ds2, p2, q2, rfl, rfl, rfl, h2, r2⟩ := trodAll_cons r1
  obtain ⟨v3, vs3, d3, ds3, p3, q3, rfl, rfl, rfl, h3, r3⟩ := trodAll_cons r2
  obtain ⟨rfl, rfl, rfl⟩ := trodAll_nil r3
  obtain rfl : args = #[v0, v1, v2, v3] := by cases args; simp_all
  obtain ⟨rfl, rfl⟩ := trodVars_none hV
  obtain ⟨b0, len0, cap0, rfl⟩ := okWide_slice Tryz.underlying25 (hval 0 25 v0 rfl rfl)
  have k0 := h0
  have lt0 : ∀ x ∈ p0, x.block < W.heap.size := by obtain ⟨m, hm⟩ := k0; exact DataW.trod_lt m _ _ _ hm
  obtain ⟨a0, c0, z0, hcs0, hk0, hl0, hc0, hm0, hu0⟩ := (show ∃ (A : Option Addr) (c : Nat) (l : List PropD), [Value.slice b0 len0 cap0] = [.slice A l.length c] ∧ PrA A l W ∧ l.length ≤ c ∧ l.length ≤ 9223372036854775807 ∧ (A = none → c = 0) ∧ l.length ≤ Rows.uptoBulk d0 ∧ ∀ d ∈ l, d.com.length ≤ Rows.uptoBulk d0 by obtain ⟨fuel, hf⟩ := h0; exact props_openU hf)
  have hu0 : z0.length ≤ 2097152 ∧ ∀ d ∈ z0, d.com.length ≤ 2097152 := by
    have hb := upto_le hkk (show d0 ∈ _ by simp)
    exact ⟨by omega, fun d hd => by have := hu0.2 d hd; omega⟩
  injection hcs0 with hcs0
  injection hcs0 with e0 f0 g0
  subst e0
  subst f0
  subst g0
  obtain ⟨a1, rfl, rfl, rfl, w1⟩ := open_int Tryz.underlying5 (hval 1 5 v1 rfl rfl) h1
  obtain ⟨a2, rfl, rfl, rfl⟩ := open_bool Tryz.underlying4 (hval 2 4 v2 rfl rfl) h2
  obtain ⟨a3, rfl, rfl, rfl⟩ := open_bool Tryz.underlying4 (hval 3 4 v3 rfl rfl) h3
  clear hA0 hval0 hsz0 hsz
  rw [MakeChecks.laidMetH_plain _ _ _ (by kernel_rfl)] at hL
  replace hL : laidMet Tryz.prog laid W := hL
  have hT : WTab W := wtab_of_laid hL (by simp [laid]) (by simp [laid]) (by simp [laid])
  refine (fnPropsBack_walk b0 z0.length cap0 z0 a1 a2 a3 W hk0 rfl hl0 hc0 hm0 w1 hu0 hT).mono fun e W' ⟨he, bel⟩ => ?_
  subst he
  exact ⟨_, rfl, _, _, _, [], _, [], hW', trodAll_mk1 (shut_bool Tryz.underlying4 _), (trodAll_cons_mk (Below.trod laidOut (by kernel_rfl) (of_decide_eq_true (by kernel_rfl)) k0 bel lt0) (trodAll_cons_mk (shut_int Tryz.underlying5 w1) (trodAll_cons_mk (shut_bool Tryz.underlying4 a2) (trodAll_cons_mk (shut_bool Tryz.underlying4 a3) trodAll_mk0)))), rfl, bel.frame _, fun h => by cases h⟩
theorem over : Rows.fnPropsBackUptoRow.holds Tryz.pinned (Rows.OpenSpec.upto Rows.fnPropsBackSpec) :=
  OpenClaim.holds_of_cond 6 Tryz.f6 rfl rfl rfl rfl rfl rfl rfl ⟨rfl, rfl, rfl, rfl, rfl⟩ rfl rfl rfl rfl rfl (by kernel_rfl) Tryz.func6 (by kernel_rfl)
    (of_decide_eq_true (by kernel_rfl)) (by unfold Func.isWrapper; first | (rw [if_pos (by decide +kernel)]; kernel_rfl) | (rw [if_neg (by decide +kernel)]; exact ⟨rfl, rfl⟩))
    (fun os started H enc _ F => by rw [OpenClaim.pre_eq_preRow]; exact lifted os started H enc F)
theorem card_holds : Rows.FnPropsBackUptoCardSaid :=
  Claim7.holds_tied_plain_at .later [] [.data, .data, .data, .data, .sentinel, .sentinel, .listed, .pinned] true (true, "68a5c7dd90c14106b77491a0fedf7da97eb224545e41a00471a1ce6466fd8d55") true over (fun _ h => by cases h) (by kernel_rfl) (fun _ h => by cases h) fnPropsBackUpto_row_tie rfl ⟨rfl, rfl⟩ (by kernel_rfl) rfl
    (fun f fn hf hfn => by
      obtain rfl : f = 6 := Option.some.inj ((show Tryz.prog.funcNamed "pub-pencraft/laws.FnPropsBack" = some 6 by kernel_rfl).symm.trans hf) |>.symm
      obtain rfl : fn = Tryz.f6 := (Option.some.inj (Tryz.func6.symm.trans hfn)).symm
      exact ⟨by kernel_rfl, fun j t ht => by
        rw [Tryz.params6] at ht
        have hm : t ∈ [25, 5, 4, 4] := by simpa using Array.mem_of_getElem? ht
        have hall : ([25, 5, 4, 4].all fun u => !Tryz.prog.wantsStandIn u) = true := by kernel_rfl
        exact (show Tryz.prog.wantsStandIn t = false by simpa using List.all_eq_true.1 hall t hm)⟩)
    (by kernel_rfl)
end Go.Proofs.YtgmhigjhooihdaaGreatDoor.fnPropsBack
namespace Go.Proofs.YtgmhigjhooihdaaGreatDoor
/-- The statement, under a short name, for the claim. -/
theorem fnPropsBack_holds : Rows.FnPropsBackUptoCardSaid := fnPropsBack.card_holds
#print axioms fnPropsBack_holds
end Go.Proofs.YtgmhigjhooihdaaGreatDoor
