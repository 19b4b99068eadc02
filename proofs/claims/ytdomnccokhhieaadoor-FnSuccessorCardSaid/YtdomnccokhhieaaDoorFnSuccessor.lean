/- The walk of the law FnSuccessor. -/
import Derived.Test.YtdomnccokhhieaaDoorSSpec
import Derived.Test.YtdomnccokhhieaaDoorFew
import Derived.Test.YtdomnccokhhieaaDoorImplSucc
set_option linter.unusedVariables false
namespace Go.Proofs.YtdomnccokhhieaaDoor
open Go.RowKit Plain PFnSuccessor Go.Proofs.YtdomnccokhhieaaDoorW.PrintWords

theorem rns_ascii_l (l : List UInt8) (h : ∀ b ∈ l, b.toNat < 128) : rnsOf l = l.map (·.toNat) := rns_ascii l h
theorem s1999 : succS ⟨#[49, 57, 57, 57, 122, 122, 122]⟩ = ⟨#[50, 48, 48, 48, 97, 97, 97]⟩ := by
  unfold succS
  have e : (⟨#[49, 57, 57, 57, 122, 122, 122]⟩ : ByteArray).data.toList = [49, 57, 57, 57, 122, 122, 122] := rfl
  rw [e, rns_ascii _ (by decide)]
  exact text_of_nat [50, 48, 48, 48, 97, 97, 97] _ (by decide) (by decide +kernel)
theorem sstars : succS ⟨#[42, 42, 42]⟩ = ⟨#[42, 42, 43]⟩ := by
  unfold succS
  have e : (⟨#[42, 42, 42]⟩ : ByteArray).data.toList = [42, 42, 42] := rfl
  rw [e, rns_ascii _ (by decide)]
  exact text_of_nat [42, 42, 43] _ (by decide) (by decide +kernel)
theorem i1999 (w : World) : Calls Tryd.prog 10 #[.string ⟨#[49, 57, 57, 57, 122, 122, 122]⟩] w fun e w' => e = .returned (.string ⟨#[50, 48, 48, 48, 97, 97, 97]⟩) ∧ Below w.heap.size w w' := by
  have := implSucc_any ⟨#[49, 57, 57, 57, 122, 122, 122]⟩ w (by decide)
  rwa [s1999] at this
theorem istars (w : World) : Calls Tryd.prog 10 #[.string ⟨#[42, 42, 42]⟩] w fun e w' => e = .returned (.string ⟨#[42, 42, 43]⟩) ∧ Below w.heap.size w w' := by
  have := implSucc_any ⟨#[42, 42, 42]⟩ w (by decide)
  rwa [sstars] at this

set_option maxHeartbeats 4000000 in
set_option maxRecDepth 100000 in
theorem fnSuccessor_walk (s : ByteArray) (w : World) (hs0 : s.size ≤ 140737488351232) (hT0 : Tabs w) :
    Calls Tryd.prog 3 #[.string s] w fun e w' => e = .returned (.bool true) ∧ Below w.heap.size w w' := by
  by_cases hb : 2147483647 < s.size
  · have hbz : (2147483647 : Int) < (s.size : Int) := by omega
    go_enter Tryd.func3, Tryd.ntmps3
    go_wp2
    go_ret
    exact ⟨rfl, Below.refl _ _⟩
  have hbz : ¬ (2147483647 : Int) < (s.size : Int) := by omega
  cases hf : decide (1 + s.size ≤ 400) with
  | false =>
    have HF := Lib.hid (fun w => few_any w.heap.size 1 1 [s] rfl (w.alloc (.cells #[.string s] 9)) (rowS_new w [s] _) (by decide) (by simp [sumSz]; omega) false (by simpa [sumSz] using hf))
    clear hf
    go_enter Tryd.func3, Tryd.ntmps3
    go_wp2_with (first | (go_at_call 10; (with_reducible refine (i1999 _).mono ?_); rintro e w1 ⟨rfl, hb1⟩; dsimp only) | (go_at_call 10; (with_reducible refine (istars _).mono ?_); rintro e w2 ⟨rfl, hb2⟩; dsimp only))
    go_wp2_with (go_at_call 11; (with_reducible refine (HF.out _).mono ?_); rintro e w3 ⟨rfl, rfl⟩; dsimp only)
    go_wp2
    go_ret
    exact ⟨rfl, bthen hb1 (bthen hb2 ((Below.refl _ w2).alloc (Nat.le_refl _) _))⟩
  | true =>
    have HF := Lib.hid (fun w => few_any w.heap.size 1 1 [s] rfl (w.alloc (.cells #[.string s] 9)) (rowS_new w [s] _) (by decide) (by simp [sumSz]; omega) true (by simpa [sumSz] using hf))
    clear hf
    obtain ⟨V, hV⟩ : ∃ V, ([s].all fun x => Lib.validD x.data.toList) = V := ⟨_, rfl⟩
    have HSET := Lib.hid (fun w (hT : Tabs w) => settled_any w.heap.size 1 1 [s] rfl (w.alloc (.cells #[.string s] 9)) (by simp) (rowS_new w [s] _) (by decide) (by intro x hx; simp at hx; subst hx; omega) (hT.below ((Below.refl _ w).alloc (Nat.le_refl _) _)) V hV)
    have HSS := Lib.hid (fun w (hT : Tabs w) => sspec_any s w (by omega) V (Lib.hid (HSET.out w hT)))
    have HI := Lib.hid (fun w => implSucc_any s w (by omega))
    have HTD := Lib.hid (fun X z w (h : z = 1 → X = succS s) => (laws_told.calls (succS s) X z true w (by
      unfold laws_told.f
      split
      · rename_i h1
        rw [h h1]
        simp
      · rfl)).mono (R' := fun (e : Ending) (w' : World) => e = .returned (.bool true) ∧ Below w.heap.size w w') fun e w' ⟨he, hd⟩ => ⟨he, hd.below⟩)
    have HX : Hid (∀ e, SAns s e → ∃ X z, e = Ending.returned (.tuple #[.string X, .int .i64 z]) ∧ Hid (z = 1 → X = succS s)) := Lib.hid fun e h => by
      obtain ⟨X, z, h1, h2⟩ := h
      exact ⟨X, z, h1, Lib.hid h2⟩
    generalize succS s = Y at HI HTD HX
    clear hV HSET
    go_enter Tryd.func3, Tryd.ntmps3
    go_wp2_with (first | (go_at_call 10; (with_reducible refine (i1999 _).mono ?_); rintro e w1 ⟨rfl, hb1⟩; dsimp only) | (go_at_call 10; (with_reducible refine (istars _).mono ?_); rintro e w2 ⟨rfl, hb2⟩; dsimp only))
    go_wp2_with (go_at_call 11; (with_reducible refine (HF.out _).mono ?_); rintro e w3 ⟨rfl, rfl⟩; dsimp only)
    have hB2 := bthen hb1 (bthen hb2 ((Below.refl _ w2).alloc (Nat.le_refl _) (.cells #[.string s] 9)))
    have hT2 := hT0.below hB2
    go_wp2_with (go_at_call 12; (with_reducible refine (HSS.out _ hT2).mono ?_))
    rintro e w4 ⟨hsa, hb4⟩
    obtain ⟨X, z, rfl, HXZ⟩ := HX.out _ hsa
    clear hsa
    dsimp only
    go_wp2_with (go_at_call 10; (with_reducible refine (HI.out _).mono ?_); rintro e w5 ⟨rfl, hb5⟩; dsimp only)
    go_wp2_with (go_at_call 13; (with_reducible refine (HTD.out _ _ _ HXZ.out).mono ?_); rintro e w6 ⟨rfl, hb6⟩; dsimp only)
    go_wp2
    go_ret
    exact ⟨rfl, bthen (bthen (bthen hB2 hb4) hb5) hb6⟩
end Go.Proofs.YtdomnccokhhieaaDoor
