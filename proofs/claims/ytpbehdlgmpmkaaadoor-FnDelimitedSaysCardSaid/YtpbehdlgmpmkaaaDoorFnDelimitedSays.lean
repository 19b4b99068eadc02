/- The walk of the law FnDelimitedSays. -/
import Derived.Test.YtpbehdlgmpmkaaaDoorSpecCase
set_option linter.unusedVariables false
namespace Go.Proofs.YtpbehdlgmpmkaaaDoor
open Go.RowKit Plain PFnDelimitedSays Go.Proofs.YtpbehdlgmpmkaaaDoorW.PrintWords

theorem aB_eq : delS 46 ⟨#[]⟩ true ⟨#[97, 66]⟩ = ⟨#[65, 46, 66]⟩ := by decide +kernel
theorem aB_any (w : World) (hT : STab w) : Calls Tryd.prog 7 #[.string ⟨#[97, 66]⟩, .int .u8 46, .string ⟨#[]⟩, .bool true] w fun e w' => e = .returned (.string ⟨#[65, 46, 66]⟩) ∧ Below w.heap.size w w' := by
  have := iTSD ⟨#[97, 66]⟩ ⟨#[]⟩ 46 46 rfl true w (by decide) (by decide) hT
  rwa [aB_eq] at this
theorem two_row (w : World) (a b : ByteArray) : Kd.string.C (w.alloc (.cells #[.string a, .string b] 9)) (some ⟨w.heap.size, 0, none⟩) 2 [a, b] := by
  refine ⟨rfl, by decide, fun _ => ⟨⟨w.heap.size, 0, none⟩, rfl, fun j p hj => ⟨[.string p], rfl, rfl, fun i u hu => ?_⟩⟩⟩
  match i, hu with
  | 0, hu =>
    simp at hu
    subst hu
    match j, hj with
    | 0, hj => simp at hj; subst hj; simp [Addr.add]
    | 1, hj =>
      simp at hj
      subst hj
      have e : Kd.string.sz = 1 := rfl
      simp [Addr.add, e]
theorem few_two (a b : ByteArray) (ha : a.size ≤ 2147483647) (hb : b.size ≤ 2147483647) : laws_few.f 4 [a, b] = some (decide (2 + a.size + b.size ≤ 400)) := by
  have e1 : wrap64 (2 + (a.size : Int)) = 2 + (a.size : Int) := w64 _ (by omega)
  have e2 : wrap64 (2 + (a.size : Int) + (b.size : Int)) = 2 + (a.size : Int) + (b.size : Int) := w64 _ (by omega)
  have e3 : wrap64 1 = 1 := w64 _ (by omega)
  have e4 : wrap64 2 = 2 := w64 _ (by omega)
  have h : laws_size.f 4 [a, b] = some (2 + (a.size : Int) + (b.size : Int)) := by
    unfold laws_size.f
    simp [laws_size.l0, rdOf, e1, e2, e3, e4]
  unfold laws_few.f
  rw [h, Option.bind_some]
  congr 1
  rw [decide_eq_decide]
  omega
theorem few_any (w : World) (a b : ByteArray) (ha : a.size ≤ 2147483647) (hb : b.size ≤ 2147483647) (r : Bool) (hr : decide (2 + a.size + b.size ≤ 400) = r) :
    Calls Tryd.prog 8 #[.slice (some ⟨w.heap.size, 0, none⟩) 2 2] (w.alloc (.cells #[.string a, .string b] 9)) fun e w' => e = .returned (.bool r) ∧ Below (w.alloc (.cells #[.string a, .string b] 9)).heap.size (w.alloc (.cells #[.string a, .string b] 9)) w' :=
  (laws_few.calls 4 (some ⟨w.heap.size, 0, none⟩) 2 [a, b] r _ (two_row w a b) (Nat.le_refl _) (by rw [few_two a b ha hb, hr])).mono fun e w' ⟨he, hd⟩ => ⟨he, hd.below⟩
theorem u8_bd {x : Int} (h : (Lit.int .u8 x).wf = true) : 0 ≤ x ∧ x ≤ 255 := by simpa [Lit.wf, IntKind.min, IntKind.max, IntKind.signed, IntKind.bits] using h

set_option maxHeartbeats 4000000 in
set_option maxRecDepth 100000 in
theorem fnDelimitedSays_walk (s : ByteArray) (d : Int) (ign : ByteArray) (scr : Bool) (w : World) (hs0 : s.size ≤ 140737488351232) (hd : (Lit.int .u8 d).wf = true) (hi0 : ign.size ≤ 140737488351232) (hT0 : STab w) :
    Calls Tryd.prog 3 #[.string s, .int .u8 d, .string ign, .bool scr] w fun e w' => e = .returned (.bool true) ∧ Below w.heap.size w w' := by
  obtain ⟨hd0, hd1⟩ := u8_bd hd
  clear hd
  obtain ⟨D, hD⟩ : ∃ D : UInt8, d = (D.toNat : Int) := ⟨UInt8.ofNat d.toNat, by rw [UInt8.toNat_ofNat']; omega⟩
  subst hD
  by_cases hb : 2147483647 < s.size
  · have hbz : (2147483647 : Int) < (s.size : Int) := by omega
    go_enter Tryd.func3, Tryd.ntmps3
    go_wp2
    go_ret
    exact ⟨rfl, Below.refl _ _⟩
  have hbz : ¬ (2147483647 : Int) < (s.size : Int) := by omega
  by_cases hb2 : 2147483647 < ign.size
  · have hby : (2147483647 : Int) < (ign.size : Int) := by omega
    go_enter Tryd.func3, Tryd.ntmps3
    go_wp2
    go_ret
    exact ⟨rfl, Below.refl _ _⟩
  have hby : ¬ (2147483647 : Int) < (ign.size : Int) := by omega
  cases hf : decide (2 + s.size + ign.size ≤ 400) with
  | false =>
    have HF := Lib.hid (fun w => few_any w s ign (by omega) (by omega) false hf)
    clear hf
    go_enter Tryd.func3, Tryd.ntmps3
    go_wp2_with (go_at_call 7; (with_reducible refine (aB_any _ hT0).mono ?_); rintro e w1 ⟨rfl, hb1⟩; dsimp only)
    go_wp2_with (go_at_call 8; (with_reducible refine (HF.out _).mono ?_); rintro e w2 ⟨rfl, hb2⟩; dsimp only)
    go_ret
    exact ⟨rfl, bthen hb1 (bthen ((Below.refl _ w1).alloc (Nat.le_refl _) _) hb2)⟩
  | true =>
    have HF := Lib.hid (fun w => few_any w s ign (by omega) (by omega) true hf)
    clear hf
    obtain ⟨k, r, hr, hp⟩ := delim_f s ign D scr (by omega) (by omega)
    obtain ⟨r1, r2⟩ := r
    have HS := Lib.hid (fun w => spec_Delimited.calls k s (D.toNat : Int) ign scr r1 r2 w hr)
    have HI := Lib.hid (fun w hT => iTSD s ign D (D.toNat : Int) rfl scr w (by omega) (by omega) hT)
    have HTD := Lib.hid (fun w => (laws_told.calls (delS D ign scr s) r1 r2 true w (by
      unfold laws_told.f
      split
      · rename_i h1
        rw [show r1 = delS D ign scr s from hp h1]
        simp
      · rfl)).mono (R' := fun (e : Ending) (w' : World) => e = .returned (.bool true) ∧ Below w.heap.size w w') fun e w' ⟨he, hd⟩ => ⟨he, hd.below⟩)
    generalize delS D ign scr s = X at HI HTD
    clear hr hp
    go_enter Tryd.func3, Tryd.ntmps3
    go_wp2_with (go_at_call 7; (with_reducible refine (aB_any _ hT0).mono ?_); rintro e w1 ⟨rfl, hb1⟩; dsimp only)
    go_wp2_with (go_at_call 8; (with_reducible refine (HF.out _).mono ?_); rintro e w2 ⟨rfl, hb2⟩; dsimp only)
    have hB2 := bthen hb1 (bthen ((Below.refl _ w1).alloc (Nat.le_refl _) _) hb2)
    have hT2 := hT0.below hB2
    go_wp2_with (go_at_call 9; (with_reducible refine (HS.out _).mono ?_); rintro e w3 ⟨rfl, hb3⟩; dsimp only)
    have hT3 := hT2.below hb3
    go_wp2_with (go_at_call 7; (with_reducible refine (HI.out _ hT3).mono ?_); rintro e w4 ⟨rfl, hb4⟩; dsimp only)
    go_wp2_with (go_at_call 10; (with_reducible refine (HTD.out _).mono ?_); rintro e w5 ⟨rfl, hb5⟩; dsimp only)
    go_ret
    exact ⟨rfl, bthen (bthen (bthen hB2 hb3) hb4) hb5⟩
end Go.Proofs.YtpbehdlgmpmkaaaDoor
