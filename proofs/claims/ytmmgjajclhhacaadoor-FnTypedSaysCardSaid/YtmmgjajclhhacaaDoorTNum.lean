/- The properties' typed getters, at one value or none. -/
import Derived.Test.YtmmgjajclhhacaaDoorTVal
import Derived.Lib.ParseIntBTie
set_option linter.unusedVariables false
namespace Go.Proofs.YtmmgjajclhhacaaDoor
open Go.RowKit Go.Maps

theorem bw_below {w w' : World} {t : TypeId} (h : w' = w ∨ ∃ x, w' = Lib.bytesWorld w t x) : Below w.heap.size w w' := by
  rcases h with rfl | ⟨x, rfl⟩
  · exact Below.refl _ _
  · exact Lib.bytesWorld_below _ _ _
theorem okN_ok {α : Type} {x : Lib.NumEnd α} {u : α} (h : okN x = some u) : x = .ok u := by
  cases x <;> simp_all [okN]
def isRg {α : Type} : Lib.NumEnd α → Bool
  | .range => true
  | _ => false
theorem okN_none {α : Type} {x : Lib.NumEnd α} (e : Lib.NumEnd α) (he : okN e = none) (hr : isRg e = false) (h : okN x = none) : x = e ∨ x = .range := by
  cases x <;> cases e <;> simp_all [okN, isRg]
def uW (is : Bool) (o : Option Nat) (d : Int) : Int := if is then (match o with | some u => (u : Int) | none => d) else d
def iW (is : Bool) (o : Option Int) (d : Int) : Int := if is then o.getD d else d
def NPost (k : IntKind) (w : World) (e : Ending) (w' : World) : Prop := ∃ T p, e = .returned (.tuple #[.int k 0, .iface T p]) ∧ Below w.heap.size w w'
set_option maxHeartbeats 2000000 in
set_option maxRecDepth 100000 in
theorem getI64_ok (v : ByteArray) (pb : Nat) (w : World) (h : VS true v pb w) (hv : v.size ≤ 1000000) (u : Int) (hu : Lib.parseIntB 64 v.data.toList = .ok u) :
    Calls Tryd.prog 28 #[.pointer (some ⟨pb, 0, none⟩), .string ⟨#[107]⟩] w fun e w' => e = .returned (.tuple #[.int .i64 u, .nilIface]) ∧ Below w.heap.size w w' := by
  have HG := Lib.hid (get_yes v pb w h)
  have HP := Lib.hid (Tryd.strconv_ParseInt_10_at64_ok v (by omega) u hu w)
  clear h hu
  go_enter Tryd.func28, Tryd.ntmps28
  go_wp2_with (go_at_call 35; (with_reducible refine HG.out.mono ?_); rintro e w1 ⟨rfl, rfl⟩; dsimp only)
  go_wp2_with (go_at_call 39; (with_reducible refine HP.out.mono ?_); rintro e w2 ⟨rfl, hw⟩; dsimp only)
  go_wp2
  go_ret2
  exact ⟨rfl, bw_below hw⟩
set_option maxHeartbeats 2000000 in
set_option maxRecDepth 100000 in
theorem getI64_err (v : ByteArray) (pb : Nat) (w : World) (h : VS true v pb w) (hv : v.size ≤ 1000000) (hu : okN (Lib.parseIntB 64 v.data.toList) = none) (hE : ErrTab w) :
    Calls Tryd.prog 28 #[.pointer (some ⟨pb, 0, none⟩), .string ⟨#[107]⟩] w (NPost .i64 w) := by
  unfold NPost
  have HG := Lib.hid (get_yes v pb w h)
  have HP : Hid (Calls Tryd.prog 39 #[.string v, .int .i64 10, .int .i64 64] w fun e w' => ∃ x T p, e = .returned (.tuple #[.int .i64 x, .iface T p]) ∧ Below w.heap.size w w') := by
    obtain ⟨⟨te, pe, e1⟩, ⟨tf, pf, e2⟩⟩ := hE
    rcases okN_none (Lib.parseIntB 64 []) rfl rfl hu with h5 | h5
    · refine Lib.hid ((Tryd.strconv_ParseInt_10_at64_syntax v (by omega) h5 _ w e1 (.inr ⟨_, _, rfl⟩)).mono ?_)
      rintro e w' ⟨N, rfl, _, _, hb⟩
      exact ⟨_, _, _, rfl, hb⟩
    · refine Lib.hid ((Tryd.strconv_ParseInt_10_at64_range v (by omega) h5 _ w e2 (.inr ⟨_, _, rfl⟩)).mono ?_)
      rintro e w' ⟨N, rfl, _, _, hb⟩
      exact ⟨_, _, _, rfl, hb⟩
  clear h hu hE
  go_enter Tryd.func28, Tryd.ntmps28
  go_wp2_with (go_at_call 35; (with_reducible refine HG.out.mono ?_); rintro e w1 ⟨rfl, rfl⟩; dsimp only)
  go_wp2_with (go_at_call 39; (with_reducible refine HP.out.mono ?_); rintro e w2 ⟨x, T, p, rfl, hb⟩; dsimp only)
  go_wp2
  go_ret2
  exact ⟨_, _, rfl, hb⟩
set_option maxHeartbeats 2000000 in
set_option maxRecDepth 100000 in
theorem getI64_no (v : ByteArray) (pb : Nat) (w : World) (h : VS false v pb w) :
    Calls Tryd.prog 28 #[.pointer (some ⟨pb, 0, none⟩), .string ⟨#[107]⟩] w (NPost .i64 w) := by
  unfold NPost
  have HG := Lib.hid (get_no v pb w h)
  have HK := Lib.hid (badKey_any ⟨#[107]⟩ w)
  clear h
  go_enter Tryd.func28, Tryd.ntmps28
  go_wp2_with (go_at_call 35; (with_reducible refine HG.out.mono ?_); rintro e w1 ⟨x, rfl, rfl⟩; dsimp only)
  go_wp2_with (go_at_call 38; (with_reducible refine HK.out.mono ?_); rintro e w2 ⟨T, p, rfl, hb⟩; dsimp only)
  go_wp2
  go_ret2
  exact ⟨_, _, rfl, hb⟩
set_option maxHeartbeats 2000000 in
set_option maxRecDepth 100000 in
theorem GetI64_any (is : Bool) (v : ByteArray) (pb : Nat) (d : Int) (w : World) (h : VS is v pb w) (hv : v.size ≤ 1000000) (hE : ErrTab w) :
    Calls Tryd.prog 18 #[.pointer (some ⟨pb, 0, none⟩), .string ⟨#[107]⟩, .int .i64 d] w fun e w' => e = .returned (.int .i64 (iW is (okN (Lib.parseIntB 64 v.data.toList)) d)) ∧ Below w.heap.size w w' := by
  cases is with
  | false =>
    have HG := Lib.hid (getI64_no v pb w h)
    clear h hE
    have hr : iW false (okN (Lib.parseIntB 64 v.data.toList)) d = d := rfl
    rw [hr]
    go_enter Tryd.func18, Tryd.ntmps18
    go_wp2_with (go_at_call 28; (with_reducible refine HG.out.mono ?_); rintro e w1 ⟨T, p, rfl, hb⟩; dsimp only)
    go_wp2
    go_ret
    exact ⟨rfl, hb⟩
  | true =>
    cases hu : okN (Lib.parseIntB 64 v.data.toList) with
    | none =>
      have HG := Lib.hid (getI64_err v pb w h hv hu hE)
      clear h hE hu
      have hr : iW true none d = d := rfl
      rw [hr]
      go_enter Tryd.func18, Tryd.ntmps18
      go_wp2_with (go_at_call 28; (with_reducible refine HG.out.mono ?_); rintro e w1 ⟨T, p, rfl, hb⟩; dsimp only)
      go_wp2
      go_ret
      exact ⟨rfl, hb⟩
    | some u =>
      have HG := Lib.hid (getI64_ok v pb w h hv u (okN_ok hu))
      clear h hE hu
      have hr : iW true (some u) d = u := rfl
      rw [hr]
      go_enter Tryd.func18, Tryd.ntmps18
      go_wp2_with (go_at_call 28; (with_reducible refine HG.out.mono ?_); rintro e w1 ⟨rfl, hb⟩; dsimp only)
      go_wp2
      go_ret
      exact ⟨rfl, hb⟩
set_option maxHeartbeats 2000000 in
set_option maxRecDepth 100000 in
theorem iI64_any (is : Bool) (v : ByteArray) (d : Int) (w : World) (hv : v.size ≤ 1000000) (hE : ErrTab w) :
    Calls Tryd.prog 5 #[.string v, .bool is, .int .i64 d] w fun e w' => e = .returned (.int .i64 (iW is (okN (Lib.parseIntB 64 v.data.toList)) d)) ∧ Below w.heap.size w w' := by
  have HV := Lib.hid (valued_any is v w (by omega))
  have HE := Lib.hid hE
  obtain ⟨R, hR⟩ : ∃ R, (iW is (okN (Lib.parseIntB 64 v.data.toList)) d) = R := ⟨_, rfl⟩
  rw [hR]
  have HG := Lib.hid (fun (pb : Nat) (w : World) (h : VS is v pb w) (hE : ErrTab w) => GetI64_any is v pb d w h hv hE)
  rw [hR] at HG
  clear hE hR
  go_enter Tryd.func5, Tryd.ntmps5
  go_wp2_with (go_at_call 16; with_reducible refine HV.out.mono ?_)
  rintro e w1 hp
  obtain ⟨pb, rfl, hvs, hb⟩ := hp
  dsimp only
  have HH := Lib.hid (HG.out pb w1 hvs (HE.out.below hb))
  clear hvs
  go_wp2_with (go_at_call 18; (with_reducible refine HH.out.mono ?_); rintro e w2 ⟨rfl, hb2⟩; dsimp only)
  go_wp2
  go_ret
  exact ⟨rfl, bthen hb hb2⟩
set_option maxHeartbeats 2000000 in
set_option maxRecDepth 100000 in
theorem getI32_ok (v : ByteArray) (pb : Nat) (w : World) (h : VS true v pb w) (hv : v.size ≤ 1000000) (u : Int) (hu : Lib.parseIntB 32 v.data.toList = .ok u) (h1 : -2147483648 ≤ u) (h2 : u ≤ 2147483647) :
    Calls Tryd.prog 32 #[.pointer (some ⟨pb, 0, none⟩), .string ⟨#[107]⟩] w fun e w' => e = .returned (.tuple #[.int .i32 u, .nilIface]) ∧ Below w.heap.size w w' := by
  have HG := Lib.hid (get_yes v pb w h)
  have HP := Lib.hid (Tryd.strconv_ParseInt_10_at32_ok v (by omega) u hu w)
  have hwr : IntKind.i32.wrap u = u := by rw [IntKind.wrap_i32]; omega
  clear h hu
  go_enter Tryd.func32, Tryd.ntmps32
  go_wp2_with (go_at_call 35; (with_reducible refine HG.out.mono ?_); rintro e w1 ⟨rfl, rfl⟩; dsimp only)
  go_wp2_with (go_at_call 39; (with_reducible refine HP.out.mono ?_); rintro e w2 ⟨rfl, hw⟩; dsimp only)
  go_wp2
  go_ret2
  exact ⟨rfl, bw_below hw⟩
set_option maxHeartbeats 2000000 in
set_option maxRecDepth 100000 in
theorem getI32_err (v : ByteArray) (pb : Nat) (w : World) (h : VS true v pb w) (hv : v.size ≤ 1000000) (hu : okN (Lib.parseIntB 32 v.data.toList) = none) (hE : ErrTab w) :
    Calls Tryd.prog 32 #[.pointer (some ⟨pb, 0, none⟩), .string ⟨#[107]⟩] w (NPost .i32 w) := by
  unfold NPost
  have HG := Lib.hid (get_yes v pb w h)
  have HP : Hid (Calls Tryd.prog 39 #[.string v, .int .i64 10, .int .i64 32] w fun e w' => ∃ x T p, e = .returned (.tuple #[.int .i64 x, .iface T p]) ∧ Below w.heap.size w w') := by
    obtain ⟨⟨te, pe, e1⟩, ⟨tf, pf, e2⟩⟩ := hE
    rcases okN_none (Lib.parseIntB 32 []) rfl rfl hu with h5 | h5
    · refine Lib.hid ((Tryd.strconv_ParseInt_10_at32_syntax v (by omega) h5 _ w e1 (.inr ⟨_, _, rfl⟩)).mono ?_)
      rintro e w' ⟨N, rfl, _, _, hb⟩
      exact ⟨_, _, _, rfl, hb⟩
    · refine Lib.hid ((Tryd.strconv_ParseInt_10_at32_range v (by omega) h5 _ w e2 (.inr ⟨_, _, rfl⟩)).mono ?_)
      rintro e w' ⟨N, rfl, _, _, hb⟩
      exact ⟨_, _, _, rfl, hb⟩
  clear h hu hE
  go_enter Tryd.func32, Tryd.ntmps32
  go_wp2_with (go_at_call 35; (with_reducible refine HG.out.mono ?_); rintro e w1 ⟨rfl, rfl⟩; dsimp only)
  go_wp2_with (go_at_call 39; (with_reducible refine HP.out.mono ?_); rintro e w2 ⟨x, T, p, rfl, hb⟩; dsimp only)
  go_wp2
  go_ret2
  exact ⟨_, _, rfl, hb⟩
set_option maxHeartbeats 2000000 in
set_option maxRecDepth 100000 in
theorem getI32_no (v : ByteArray) (pb : Nat) (w : World) (h : VS false v pb w) :
    Calls Tryd.prog 32 #[.pointer (some ⟨pb, 0, none⟩), .string ⟨#[107]⟩] w (NPost .i32 w) := by
  unfold NPost
  have HG := Lib.hid (get_no v pb w h)
  have HK := Lib.hid (badKey_any ⟨#[107]⟩ w)
  clear h
  go_enter Tryd.func32, Tryd.ntmps32
  go_wp2_with (go_at_call 35; (with_reducible refine HG.out.mono ?_); rintro e w1 ⟨x, rfl, rfl⟩; dsimp only)
  go_wp2_with (go_at_call 38; (with_reducible refine HK.out.mono ?_); rintro e w2 ⟨T, p, rfl, hb⟩; dsimp only)
  go_wp2
  go_ret2
  exact ⟨_, _, rfl, hb⟩
set_option maxHeartbeats 2000000 in
set_option maxRecDepth 100000 in
theorem GetI32_any (is : Bool) (v : ByteArray) (pb : Nat) (d : Int) (w : World) (h : VS is v pb w) (hv : v.size ≤ 1000000) (hE : ErrTab w) :
    Calls Tryd.prog 21 #[.pointer (some ⟨pb, 0, none⟩), .string ⟨#[107]⟩, .int .i32 d] w fun e w' => e = .returned (.int .i32 (iW is (okN (Lib.parseIntB 32 v.data.toList)) d)) ∧ Below w.heap.size w w' := by
  cases is with
  | false =>
    have HG := Lib.hid (getI32_no v pb w h)
    clear h hE
    have hr : iW false (okN (Lib.parseIntB 32 v.data.toList)) d = d := rfl
    rw [hr]
    go_enter Tryd.func21, Tryd.ntmps21
    go_wp2_with (go_at_call 32; (with_reducible refine HG.out.mono ?_); rintro e w1 ⟨T, p, rfl, hb⟩; dsimp only)
    go_wp2
    go_ret
    exact ⟨rfl, hb⟩
  | true =>
    cases hu : okN (Lib.parseIntB 32 v.data.toList) with
    | none =>
      have HG := Lib.hid (getI32_err v pb w h hv hu hE)
      clear h hE hu
      have hr : iW true none d = d := rfl
      rw [hr]
      go_enter Tryd.func21, Tryd.ntmps21
      go_wp2_with (go_at_call 32; (with_reducible refine HG.out.mono ?_); rintro e w1 ⟨T, p, rfl, hb⟩; dsimp only)
      go_wp2
      go_ret
      exact ⟨rfl, hb⟩
    | some u =>
      have HG := Lib.hid (getI32_ok v pb w h hv u (okN_ok hu) (by have := Lib.parseIntB_bounds (okN_ok hu); omega) (by have := Lib.parseIntB_bounds (okN_ok hu); omega))
      clear h hE hu
      have hr : iW true (some u) d = u := rfl
      rw [hr]
      go_enter Tryd.func21, Tryd.ntmps21
      go_wp2_with (go_at_call 32; (with_reducible refine HG.out.mono ?_); rintro e w1 ⟨rfl, hb⟩; dsimp only)
      go_wp2
      go_ret
      exact ⟨rfl, hb⟩
set_option maxHeartbeats 2000000 in
set_option maxRecDepth 100000 in
theorem iI32_any (is : Bool) (v : ByteArray) (d : Int) (w : World) (hv : v.size ≤ 1000000) (hE : ErrTab w) :
    Calls Tryd.prog 10 #[.string v, .bool is, .int .i32 d] w fun e w' => e = .returned (.int .i32 (iW is (okN (Lib.parseIntB 32 v.data.toList)) d)) ∧ Below w.heap.size w w' := by
  have HV := Lib.hid (valued_any is v w (by omega))
  have HE := Lib.hid hE
  obtain ⟨R, hR⟩ : ∃ R, (iW is (okN (Lib.parseIntB 32 v.data.toList)) d) = R := ⟨_, rfl⟩
  rw [hR]
  have HG := Lib.hid (fun (pb : Nat) (w : World) (h : VS is v pb w) (hE : ErrTab w) => GetI32_any is v pb d w h hv hE)
  rw [hR] at HG
  clear hE hR
  go_enter Tryd.func10, Tryd.ntmps10
  go_wp2_with (go_at_call 16; with_reducible refine HV.out.mono ?_)
  rintro e w1 hp
  obtain ⟨pb, rfl, hvs, hb⟩ := hp
  dsimp only
  have HH := Lib.hid (HG.out pb w1 hvs (HE.out.below hb))
  clear hvs
  go_wp2_with (go_at_call 21; (with_reducible refine HH.out.mono ?_); rintro e w2 ⟨rfl, hb2⟩; dsimp only)
  go_wp2
  go_ret
  exact ⟨rfl, bthen hb hb2⟩
set_option maxHeartbeats 2000000 in
set_option maxRecDepth 100000 in
theorem getU64_ok (v : ByteArray) (pb : Nat) (w : World) (h : VS true v pb w) (hv : v.size ≤ 1000000) (u : Nat) (hu : Lib.parseUintB 64 v.data.toList = .ok u) :
    Calls Tryd.prog 33 #[.pointer (some ⟨pb, 0, none⟩), .string ⟨#[107]⟩] w fun e w' => e = .returned (.tuple #[.int .u64 (u : Int), .nilIface]) ∧ Below w.heap.size w w' := by
  have HG := Lib.hid (get_yes v pb w h)
  have HP := Lib.hid (Tryd.strconv_ParseUint_10_at64_ok v (by omega) u hu w)
  clear h hu
  go_enter Tryd.func33, Tryd.ntmps33
  go_wp2_with (go_at_call 35; (with_reducible refine HG.out.mono ?_); rintro e w1 ⟨rfl, rfl⟩; dsimp only)
  go_wp2_with (go_at_call 40; (with_reducible refine HP.out.mono ?_); rintro e w2 ⟨rfl, hw⟩; dsimp only)
  go_wp2
  go_ret2
  exact ⟨rfl, bw_below (t := 5) (hw.imp id fun h => ⟨_, h⟩)⟩
set_option maxHeartbeats 2000000 in
set_option maxRecDepth 100000 in
theorem getU64_err (v : ByteArray) (pb : Nat) (w : World) (h : VS true v pb w) (hv : v.size ≤ 1000000) (hu : okN (Lib.parseUintB 64 v.data.toList) = none) (hE : ErrTab w) :
    Calls Tryd.prog 33 #[.pointer (some ⟨pb, 0, none⟩), .string ⟨#[107]⟩] w (NPost .u64 w) := by
  unfold NPost
  have HG := Lib.hid (get_yes v pb w h)
  have HP : Hid (Calls Tryd.prog 40 #[.string v, .int .i64 10, .int .i64 64] w fun e w' => ∃ x T p, e = .returned (.tuple #[.int .u64 x, .iface T p]) ∧ Below w.heap.size w w') := by
    obtain ⟨⟨te, pe, e1⟩, ⟨tf, pf, e2⟩⟩ := hE
    rcases okN_none (Lib.parseUintB 64 []) rfl rfl hu with h5 | h5
    · refine Lib.hid ((Tryd.strconv_ParseUint_10_at64_syntax v (by omega) h5 _ w e1 (.inr ⟨_, _, rfl⟩)).mono ?_)
      rintro e w' ⟨N, rfl, _, _, hb⟩
      exact ⟨_, _, _, rfl, hb⟩
    · refine Lib.hid ((Tryd.strconv_ParseUint_10_at64_range v (by omega) h5 _ w e2 (.inr ⟨_, _, rfl⟩)).mono ?_)
      rintro e w' ⟨N, rfl, _, _, hb⟩
      exact ⟨_, _, _, rfl, hb⟩
  clear h hu hE
  go_enter Tryd.func33, Tryd.ntmps33
  go_wp2_with (go_at_call 35; (with_reducible refine HG.out.mono ?_); rintro e w1 ⟨rfl, rfl⟩; dsimp only)
  go_wp2_with (go_at_call 40; (with_reducible refine HP.out.mono ?_); rintro e w2 ⟨x, T, p, rfl, hb⟩; dsimp only)
  go_wp2
  go_ret2
  exact ⟨_, _, rfl, hb⟩
set_option maxHeartbeats 2000000 in
set_option maxRecDepth 100000 in
theorem getU64_no (v : ByteArray) (pb : Nat) (w : World) (h : VS false v pb w) :
    Calls Tryd.prog 33 #[.pointer (some ⟨pb, 0, none⟩), .string ⟨#[107]⟩] w (NPost .u64 w) := by
  unfold NPost
  have HG := Lib.hid (get_no v pb w h)
  have HK := Lib.hid (badKey_any ⟨#[107]⟩ w)
  clear h
  go_enter Tryd.func33, Tryd.ntmps33
  go_wp2_with (go_at_call 35; (with_reducible refine HG.out.mono ?_); rintro e w1 ⟨x, rfl, rfl⟩; dsimp only)
  go_wp2_with (go_at_call 38; (with_reducible refine HK.out.mono ?_); rintro e w2 ⟨T, p, rfl, hb⟩; dsimp only)
  go_wp2
  go_ret2
  exact ⟨_, _, rfl, hb⟩
set_option maxHeartbeats 2000000 in
set_option maxRecDepth 100000 in
theorem GetU64_any (is : Bool) (v : ByteArray) (pb : Nat) (d : Int) (w : World) (h : VS is v pb w) (hv : v.size ≤ 1000000) (hE : ErrTab w) :
    Calls Tryd.prog 22 #[.pointer (some ⟨pb, 0, none⟩), .string ⟨#[107]⟩, .int .u64 d] w fun e w' => e = .returned (.int .u64 (uW is (okN (Lib.parseUintB 64 v.data.toList)) d)) ∧ Below w.heap.size w w' := by
  cases is with
  | false =>
    have HG := Lib.hid (getU64_no v pb w h)
    clear h hE
    have hr : uW false (okN (Lib.parseUintB 64 v.data.toList)) d = d := rfl
    rw [hr]
    go_enter Tryd.func22, Tryd.ntmps22
    go_wp2_with (go_at_call 33; (with_reducible refine HG.out.mono ?_); rintro e w1 ⟨T, p, rfl, hb⟩; dsimp only)
    go_wp2
    go_ret
    exact ⟨rfl, hb⟩
  | true =>
    cases hu : okN (Lib.parseUintB 64 v.data.toList) with
    | none =>
      have HG := Lib.hid (getU64_err v pb w h hv hu hE)
      clear h hE hu
      have hr : uW true none d = d := rfl
      rw [hr]
      go_enter Tryd.func22, Tryd.ntmps22
      go_wp2_with (go_at_call 33; (with_reducible refine HG.out.mono ?_); rintro e w1 ⟨T, p, rfl, hb⟩; dsimp only)
      go_wp2
      go_ret
      exact ⟨rfl, hb⟩
    | some u =>
      have HG := Lib.hid (getU64_ok v pb w h hv u (okN_ok hu))
      clear h hE hu
      have hr : uW true (some u) d = (u : Int) := rfl
      rw [hr]
      go_enter Tryd.func22, Tryd.ntmps22
      go_wp2_with (go_at_call 33; (with_reducible refine HG.out.mono ?_); rintro e w1 ⟨rfl, hb⟩; dsimp only)
      go_wp2
      go_ret
      exact ⟨rfl, hb⟩
set_option maxHeartbeats 2000000 in
set_option maxRecDepth 100000 in
theorem iU64_any (is : Bool) (v : ByteArray) (d : Int) (w : World) (hv : v.size ≤ 1000000) (hE : ErrTab w) :
    Calls Tryd.prog 11 #[.string v, .bool is, .int .u64 d] w fun e w' => e = .returned (.int .u64 (uW is (okN (Lib.parseUintB 64 v.data.toList)) d)) ∧ Below w.heap.size w w' := by
  have HV := Lib.hid (valued_any is v w (by omega))
  have HE := Lib.hid hE
  obtain ⟨R, hR⟩ : ∃ R, (uW is (okN (Lib.parseUintB 64 v.data.toList)) d) = R := ⟨_, rfl⟩
  rw [hR]
  have HG := Lib.hid (fun (pb : Nat) (w : World) (h : VS is v pb w) (hE : ErrTab w) => GetU64_any is v pb d w h hv hE)
  rw [hR] at HG
  clear hE hR
  go_enter Tryd.func11, Tryd.ntmps11
  go_wp2_with (go_at_call 16; with_reducible refine HV.out.mono ?_)
  rintro e w1 hp
  obtain ⟨pb, rfl, hvs, hb⟩ := hp
  dsimp only
  have HH := Lib.hid (HG.out pb w1 hvs (HE.out.below hb))
  clear hvs
  go_wp2_with (go_at_call 22; (with_reducible refine HH.out.mono ?_); rintro e w2 ⟨rfl, hb2⟩; dsimp only)
  go_wp2
  go_ret
  exact ⟨rfl, bthen hb hb2⟩
set_option maxHeartbeats 2000000 in
set_option maxRecDepth 100000 in
theorem getU32_ok (v : ByteArray) (pb : Nat) (w : World) (h : VS true v pb w) (hv : v.size ≤ 1000000) (u : Nat) (hu : Lib.parseUintB 32 v.data.toList = .ok u) (h2 : u ≤ 4294967295) :
    Calls Tryd.prog 34 #[.pointer (some ⟨pb, 0, none⟩), .string ⟨#[107]⟩] w fun e w' => e = .returned (.tuple #[.int .u32 (u : Int), .nilIface]) ∧ Below w.heap.size w w' := by
  have HG := Lib.hid (get_yes v pb w h)
  have HP := Lib.hid (Tryd.strconv_ParseUint_10_at32_ok v (by omega) u hu w)
  have hwr : IntKind.u32.wrap (u : Int) = (u : Int) := by rw [IntKind.wrap_u32]; omega
  clear h hu
  go_enter Tryd.func34, Tryd.ntmps34
  go_wp2_with (go_at_call 35; (with_reducible refine HG.out.mono ?_); rintro e w1 ⟨rfl, rfl⟩; dsimp only)
  go_wp2_with (go_at_call 40; (with_reducible refine HP.out.mono ?_); rintro e w2 ⟨rfl, hw⟩; dsimp only)
  go_wp2
  go_ret2
  exact ⟨rfl, bw_below (t := 5) (hw.imp id fun h => ⟨_, h⟩)⟩
set_option maxHeartbeats 2000000 in
set_option maxRecDepth 100000 in
theorem getU32_err (v : ByteArray) (pb : Nat) (w : World) (h : VS true v pb w) (hv : v.size ≤ 1000000) (hu : okN (Lib.parseUintB 32 v.data.toList) = none) (hE : ErrTab w) :
    Calls Tryd.prog 34 #[.pointer (some ⟨pb, 0, none⟩), .string ⟨#[107]⟩] w (NPost .u32 w) := by
  unfold NPost
  have HG := Lib.hid (get_yes v pb w h)
  have HP : Hid (Calls Tryd.prog 40 #[.string v, .int .i64 10, .int .i64 32] w fun e w' => ∃ x T p, e = .returned (.tuple #[.int .u64 x, .iface T p]) ∧ Below w.heap.size w w') := by
    obtain ⟨⟨te, pe, e1⟩, ⟨tf, pf, e2⟩⟩ := hE
    rcases okN_none (Lib.parseUintB 32 []) rfl rfl hu with h5 | h5
    · refine Lib.hid ((Tryd.strconv_ParseUint_10_at32_syntax v (by omega) h5 _ w e1 (.inr ⟨_, _, rfl⟩)).mono ?_)
      rintro e w' ⟨N, rfl, _, _, hb⟩
      exact ⟨_, _, _, rfl, hb⟩
    · refine Lib.hid ((Tryd.strconv_ParseUint_10_at32_range v (by omega) h5 _ w e2 (.inr ⟨_, _, rfl⟩)).mono ?_)
      rintro e w' ⟨N, rfl, _, _, hb⟩
      exact ⟨_, _, _, rfl, hb⟩
  clear h hu hE
  go_enter Tryd.func34, Tryd.ntmps34
  go_wp2_with (go_at_call 35; (with_reducible refine HG.out.mono ?_); rintro e w1 ⟨rfl, rfl⟩; dsimp only)
  go_wp2_with (go_at_call 40; (with_reducible refine HP.out.mono ?_); rintro e w2 ⟨x, T, p, rfl, hb⟩; dsimp only)
  go_wp2
  go_ret2
  exact ⟨_, _, rfl, hb⟩
set_option maxHeartbeats 2000000 in
set_option maxRecDepth 100000 in
theorem getU32_no (v : ByteArray) (pb : Nat) (w : World) (h : VS false v pb w) :
    Calls Tryd.prog 34 #[.pointer (some ⟨pb, 0, none⟩), .string ⟨#[107]⟩] w (NPost .u32 w) := by
  unfold NPost
  have HG := Lib.hid (get_no v pb w h)
  have HK := Lib.hid (badKey_any ⟨#[107]⟩ w)
  clear h
  go_enter Tryd.func34, Tryd.ntmps34
  go_wp2_with (go_at_call 35; (with_reducible refine HG.out.mono ?_); rintro e w1 ⟨x, rfl, rfl⟩; dsimp only)
  go_wp2_with (go_at_call 38; (with_reducible refine HK.out.mono ?_); rintro e w2 ⟨T, p, rfl, hb⟩; dsimp only)
  go_wp2
  go_ret2
  exact ⟨_, _, rfl, hb⟩
theorem u32_le {l : List UInt8} {u : Nat} (h : Lib.parseUintB 32 l = .ok u) : u ≤ 4294967295 := by
  have h1 : okN (Lib.parseUintB 32 l) = some u := by rw [h]; rfl
  rw [okN_B 32 (by decide)] at h1
  unfold numB at h1
  split at h1
  · cases h1
  · exact numF_le (2 ^ 32 - 1) l 0 u (by decide) h1
set_option maxHeartbeats 2000000 in
set_option maxRecDepth 100000 in
theorem GetU32_any (is : Bool) (v : ByteArray) (pb : Nat) (d : Int) (w : World) (h : VS is v pb w) (hv : v.size ≤ 1000000) (hE : ErrTab w) :
    Calls Tryd.prog 23 #[.pointer (some ⟨pb, 0, none⟩), .string ⟨#[107]⟩, .int .u32 d] w fun e w' => e = .returned (.int .u32 (uW is (okN (Lib.parseUintB 32 v.data.toList)) d)) ∧ Below w.heap.size w w' := by
  cases is with
  | false =>
    have HG := Lib.hid (getU32_no v pb w h)
    clear h hE
    have hr : uW false (okN (Lib.parseUintB 32 v.data.toList)) d = d := rfl
    rw [hr]
    go_enter Tryd.func23, Tryd.ntmps23
    go_wp2_with (go_at_call 34; (with_reducible refine HG.out.mono ?_); rintro e w1 ⟨T, p, rfl, hb⟩; dsimp only)
    go_wp2
    go_ret
    exact ⟨rfl, hb⟩
  | true =>
    cases hu : okN (Lib.parseUintB 32 v.data.toList) with
    | none =>
      have HG := Lib.hid (getU32_err v pb w h hv hu hE)
      clear h hE hu
      have hr : uW true none d = d := rfl
      rw [hr]
      go_enter Tryd.func23, Tryd.ntmps23
      go_wp2_with (go_at_call 34; (with_reducible refine HG.out.mono ?_); rintro e w1 ⟨T, p, rfl, hb⟩; dsimp only)
      go_wp2
      go_ret
      exact ⟨rfl, hb⟩
    | some u =>
      have HG := Lib.hid (getU32_ok v pb w h hv u (okN_ok hu) (u32_le (okN_ok hu)))
      clear h hE hu
      have hr : uW true (some u) d = (u : Int) := rfl
      rw [hr]
      go_enter Tryd.func23, Tryd.ntmps23
      go_wp2_with (go_at_call 34; (with_reducible refine HG.out.mono ?_); rintro e w1 ⟨rfl, hb⟩; dsimp only)
      go_wp2
      go_ret
      exact ⟨rfl, hb⟩
set_option maxHeartbeats 2000000 in
set_option maxRecDepth 100000 in
theorem iU32_any (is : Bool) (v : ByteArray) (d : Int) (w : World) (hv : v.size ≤ 1000000) (hE : ErrTab w) :
    Calls Tryd.prog 13 #[.string v, .bool is, .int .u32 d] w fun e w' => e = .returned (.int .u32 (uW is (okN (Lib.parseUintB 32 v.data.toList)) d)) ∧ Below w.heap.size w w' := by
  have HV := Lib.hid (valued_any is v w (by omega))
  have HE := Lib.hid hE
  obtain ⟨R, hR⟩ : ∃ R, (uW is (okN (Lib.parseUintB 32 v.data.toList)) d) = R := ⟨_, rfl⟩
  rw [hR]
  have HG := Lib.hid (fun (pb : Nat) (w : World) (h : VS is v pb w) (hE : ErrTab w) => GetU32_any is v pb d w h hv hE)
  rw [hR] at HG
  clear hE hR
  go_enter Tryd.func13, Tryd.ntmps13
  go_wp2_with (go_at_call 16; with_reducible refine HV.out.mono ?_)
  rintro e w1 hp
  obtain ⟨pb, rfl, hvs, hb⟩ := hp
  dsimp only
  have HH := Lib.hid (HG.out pb w1 hvs (HE.out.below hb))
  clear hvs
  go_wp2_with (go_at_call 23; (with_reducible refine HH.out.mono ?_); rintro e w2 ⟨rfl, hb2⟩; dsimp only)
  go_wp2
  go_ret
  exact ⟨rfl, bthen hb hb2⟩
end Go.Proofs.YtmmgjajclhhacaaDoor
