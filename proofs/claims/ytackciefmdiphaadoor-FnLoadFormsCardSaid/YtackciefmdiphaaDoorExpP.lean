/- Properties that are expanded: expand, check, Get. -/
import Derived.Test.YtackciefmdiphaaDoorExpF
import Derived.Test.YtackciefmdiphaaDoorProps
import Derived.Test.YtackciefmdiphaaDoorLoadB
import Derived.Deep.RegionHeld3
set_option linter.unusedVariables false
namespace Go.Proofs.YtackciefmdiphaaDoor
open Go.RowKit Plain Go.Maps

def ExRes (o : Option ByteArray) (e : Ending) : Prop :=
  match o with
  | some r => e = .returned (.tuple #[.string r, .nilIface])
  | none => ∃ N : Nat, e = .returned (.tuple #[.string ⟨#[]⟩, .iface 85 (.pointer (some ⟨N, 0, none⟩))])
def PePost (o : Option ByteArray) (w : World) (e : Ending) (w' : World) : Prop :=
  Below w.heap.size w w' ∧ ExRes o e
theorem one_keyrow {w : World} {g : Nat} {k : ByteArray} (h : w.heap[g]? = some (.cells #[.string k] 9 (0, 0))) : w.ownsRow g 9 1 (.slice (some ⟨g, 0, none⟩) 1 1) 1 ([k].map Value.string) :=
  ⟨rfl, .inr ⟨g, 1, _, rfl, Nat.le_refl _, h, Nat.le_refl _, by unfold maxLen; omega, rfl, rfl⟩⟩
attribute [local go_sem ↓] Go.wp_at_zero Go.wp_at_succ
set_option maxHeartbeats 4000000 in
set_option maxRecDepth 100000 in
theorem pexp_any (D : DataW Unit) (pb mb nD f : Nat) (key input : ByteArray) (o : Option ByteArray) (w : World) (c0 : w.cell? ⟨pb, 0, none⟩ = some (.string ⟨#[36, 123]⟩)) (c1 : w.cell? ⟨pb, 1, none⟩ = some (.string ⟨#[125]⟩)) (c3 : w.cell? ⟨pb, 3, none⟩ = some (.map (some mb))) (hm : MpS w mb nD D) (hex : expF (rawOf D) f [key] input = some o) :
    Calls Tryd.prog 19 #[.pointer (some ⟨pb, 0, none⟩), .string key, .string input] w (PePost o w) := by
  have hpl : pb < w.heap.size := Lib.lt_of_cell c0
  have hml := map_lt (mp_is hm)
  have HM := Lib.hid hm
  have HC : Hid (∀ y, Below w.heap.size w y → y.heap[w.heap.size]? = some (.cells #[.string key] 9 (0, 0)) → Calls Tryd.prog 25 #[.string input, .slice (some ⟨w.heap.size, 0, none⟩) 1 1, .string ⟨#[36, 123]⟩, .string ⟨#[125]⟩, .map (some mb)] y fun e w' => Below w.heap.size y w' ∧ ExRes o e) := Lib.hid (fun y hy hb => (expand_any D mb nD w.heap.size f [key] input o w.heap.size 1 1 y hex rfl (by omega) (mp_keep HM.out (hy.block mb hml)) (one_keyrow hb) hy.size).mono (by
      rintro e w' ⟨h1, h2, h3⟩
      exact ⟨⟨h1.os, h1.tape, h1.output, h1.size, fun j hj => h1.block j (Nat.lt_of_lt_of_le hj hy.size) (fun e => by have := Option.some.inj e; omega)⟩, h3⟩))
  have HNB : Hid (∀ o : Obj, Below w.heap.size w (w.alloc o).drew) := Lib.hid (fun o => Below.drew ((Below.refl _ _).alloc (Nat.le_refl _) o))
  have HNW : Hid (((w.alloc (.cells #[.string key] 9)).drew).heap[w.heap.size]? = some (.cells #[.string key] 9 (0, 0))) := Lib.hid (heap_alloc_new w _)
  clear hm hex
  unfold PePost
  cases o with
  | some r =>
    go_enter Tryd.func19, Tryd.ntmps19
    go_wp2_with fail
    go_region_held3 (fun y => y.cell? ⟨pb, 0, none⟩ = some (.string ⟨#[36, 123]⟩) ∧ y.cell? ⟨pb, 1, none⟩ = some (.string ⟨#[125]⟩) ∧ y.cell? ⟨pb, 3, none⟩ = some (.map (some mb)))
      (first | exact ⟨(HB4.out.cell hpl).trans c0, (HB4.out.cell hpl).trans c1, (HB4.out.cell hpl).trans c3⟩ | go_keep)
      ((go_at_call 25; (with_reducible refine (HC.out _ (HNB.out _) HNW.out).mono ?_); rintro e w4 ⟨hb4, rfl⟩; have HB4 := Lib.hid ((HNB.out _).trans hb4); clear hb4; dsimp only))
    all_goals (
      go_wp2
      go_ret2
      exact ⟨HB4.out, rfl⟩)
  | none =>
    go_enter Tryd.func19, Tryd.ntmps19
    go_wp2_with fail
    go_region_held3 (fun y => y.cell? ⟨pb, 0, none⟩ = some (.string ⟨#[36, 123]⟩) ∧ y.cell? ⟨pb, 1, none⟩ = some (.string ⟨#[125]⟩) ∧ y.cell? ⟨pb, 3, none⟩ = some (.map (some mb)))
      (first | exact ⟨(HB4.out.cell hpl).trans c0, (HB4.out.cell hpl).trans c1, (HB4.out.cell hpl).trans c3⟩ | go_keep)
      ((go_at_call 25; (with_reducible refine (HC.out _ (HNB.out _) HNW.out).mono ?_); rintro e w4 ⟨hb4, N, rfl⟩; have HB4 := Lib.hid ((HNB.out _).trans hb4); clear hb4; dsimp only))
    all_goals (
      go_wp2
      go_ret2
      exact ⟨HB4.out, N, rfl⟩)
/-- what each key's value comes to -/
def ExpAll (D : DataW Unit) (ek : ByteArray → Option ByteArray) : Prop := ∀ k, Maps.has D (keyL8 k) = true → ∃ f, expF (rawOf D) f [k] (rawOf D k) = some (ek k)
theorem has_of_at {D : DataW Unit} {k : ByteArray} {d : DataW Unit} (h : ∀ zd, D.atKey (keyL8 k) zd = d) : Maps.has D (keyL8 k) = true := has_true_of_atKey h
def CkPost (D : DataW Unit) (ek : ByteArray → Option ByteArray) (w : World) (e : Ending) (w' : World) : Prop :=
  Below w.heap.size w w' ∧ ((e = .returned .nilIface ∧ ∀ k, Maps.has D (keyL8 k) = true → (ek k).isSome = true) ∨ (∃ N k, e = .returned (.iface 85 (.pointer (some ⟨N, 0, none⟩))) ∧ Maps.has D (keyL8 k) = true ∧ ek k = none))
set_option maxHeartbeats 4000000 in
set_option maxRecDepth 100000 in
theorem check_any (D : DataW Unit) (ek : ByteArray → Option ByteArray) (pb mb nD : Nat) (w : World) (c0 : w.cell? ⟨pb, 0, none⟩ = some (.string ⟨#[36, 123]⟩)) (c1 : w.cell? ⟨pb, 1, none⟩ = some (.string ⟨#[125]⟩)) (c3 : w.cell? ⟨pb, 3, none⟩ = some (.map (some mb))) (hm : MpS w mb nD D) (hek : ExpAll D ek) :
    Calls Tryd.prog 18 #[.pointer (some ⟨pb, 0, none⟩)] w (CkPost D ek w) := by
  have hpl : pb < w.heap.size := Lib.lt_of_cell c0
  have hml := map_lt (mp_is hm)
  have HM := Lib.hid hm
  have HEK := Lib.hid hek
  have HC0 := Lib.hid c0
  have HC1 := Lib.hid c1
  have HC3 := Lib.hid c3
  have HPX : Hid (∀ y k, Below w.heap.size w y → Maps.has D (keyL8 k) = true → Calls Tryd.prog 19 #[.pointer (some ⟨pb, 0, none⟩), .string k, .string (rawOf D k)] y (PePost (ek k) y)) := Lib.hid (fun y k hy hk => by
    obtain ⟨f, hf⟩ := HEK.out k hk
    exact pexp_any D pb mb nD f k (rawOf D k) (ek k) y ((hy.cell hpl).trans HC0.out) ((hy.cell hpl).trans HC1.out) ((hy.cell hpl).trans HC3.out) (mp_keep HM.out (hy.block mb hml)) hf)
  clear hm hek c0 c1
  unfold CkPost
  go_enter Tryd.func18, Tryd.ntmps18
  go_wp2_with (first
    | (at_range; refine wpList_range_own _ rfl _ 45 rfl 9 9 lawS Tryd.underlying45 _ mb nD _ rfl HM.out ?_; intro w0 hrg0 hg0 hs0))
  (try go_frame)
  have HRG0 := Lib.hid hrg0
  have HB0 : Hid (Below w.heap.size w w0) := Lib.hid ⟨hg0.os, hg0.tape, hg0.output, hg0.size, fun j hj => hg0.block j hj (by simp)⟩
  clear hrg0 hg0 c3
  go_loopw [3] (fun _ wr => ∃ (left : Lit → Bool) (cnt : Nat), Hid (wr.ranges Tryd.prog 9 (plainElem Tryd.prog 9) mb w.heap.size nD D left cnt) ∧ Hid (∀ k, Maps.has D (keyL8 k) = true → left (keyL8 k) = false → (ek k).isSome = true) ∧ Hid (Below w.heap.size w wr))
    (fun _ wr => wr.rangeLeft mb w.heap.size)
  case atStart =>
    exact ⟨_, _, HRG0, Lib.hid (fun k h1 h2 => by rw [h1] at h2; cases h2), HB0⟩
  case round =>
    obtain ⟨left, cnt, HRG, HV, HBr⟩ := hrel
    go_wp2_with (first
      | (at_next; refine next_ss _ rfl _ rfl mb w.heap.size nD _ _ _ rfl HRG.out ?_ ?_))
    · intro hc0 hl0
      have HLZ := Lib.hid hl0
      clear hl0
      go_wp2
      go_ret
      exact ⟨HBr.out, .inl ⟨rfl, fun k hk => HV.out k hk (HLZ.out _)⟩⟩
    · intro x c w1 cnt1 hwx hwc hlx hat hrg1 hlt hg1 hs1 hen
      have hhas := has_of_at hat
      have hraw : rawOf D x = c := rawOf_of (hat _)
      subst hraw
      have hb1 : Below w.heap.size w w1 := HBr.out.grown hg1 HBr.out.size (fun j hj => by injection hj with hj; omega)
      have HB1 := Lib.hid hb1
      have HRG1 := Lib.hid hrg1
      have HCL := Lib.hid (HPX.out w1 x hb1 hhas)
      have HH := Lib.hid hhas
      obtain ⟨RX, hRX⟩ : ∃ R, rawOf D x = R := ⟨_, rfl⟩
      rw [hRX] at HCL hen
      clear hat hrg1 hg1 hhas hb1 hwc
      rw [hRX]
      cases hx : ek x with
      | none =>
        rw [hx] at HCL
        have HX := Lib.hid hx
        clear hx
        go_wp2_with (go_at_call 19; (with_reducible refine HCL.out.mono ?_); rintro e w2 ⟨hb2, N, rfl⟩; have HB2 := Lib.hid (HB1.out.trans (hb2.mono HB1.out.size)); clear hb2; dsimp only)
        go_ret
        exact ⟨HB2.out, .inr ⟨N, x, rfl, HH.out, HX.out⟩⟩
      | some r =>
        rw [hx] at HCL
        have HX := Lib.hid hx
        clear hx
        go_wp2_with (go_at_call 19; (with_reducible refine HCL.out.mono ?_); rintro e w2 ⟨hb2, rfl⟩; have HB12 := Lib.hid hb2; have HB2 := Lib.hid (HB1.out.trans (hb2.mono HB1.out.size)); clear hb2; dsimp only)
        have hrg2 := HRG1.out.kept (row := none) (w' := w2) ⟨HB12.out.os, HB12.out.tape, HB12.out.output, HB12.out.size, fun j hj _ => HB12.out.block j hj⟩ (by simp) (by simp)
        have HRG2 := Lib.hid hrg2
        have HV2 : Hid (∀ k, Maps.has D (keyL8 k) = true → (left (keyL8 k) && !(keyL8 k).sameKey (keyL8 x)) = false → (ek k).isSome = true) := Lib.hid (fun k h1 h2 => by
          by_cases hkx : k = x
          · subst hkx; rw [HX.out]; rfl
          · refine HV.out k h1 ?_
            rw [Maps.sameKey_ne (fun e => hkx (keyL8_inj e))] at h2
            simpa using h2)
        clear hrg2 hen
        go_roundw
        case rel => exact ⟨_, cnt1, HRG2, HV2, HB2⟩
        case measure => rw [HRG2.out.left_eq, HRG.out.left_eq]; exact hlt
end Go.Proofs.YtackciefmdiphaaDoor
