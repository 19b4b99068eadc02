/- spec.Pattern on every text; the method HasPattern; spec.HasPattern. -/
import Derived.Test.YtdgaehkfdaacjaaDoorPatWalk
import Derived.Test.YtdgaehkfdaacjaaDoorTrImpl
set_option linter.unusedVariables false
namespace Go.Proofs.YtdgaehkfdaacjaaDoor
open Go.RowKit Plain

def PatAns (s : List UInt8) (tob : Bool) (B : Nat) (e : Ending) (w' : World) : Prop :=
  (OpenA e ∧ (Lib.validD s = true → patS tob (rnsOf s) = none)) ∨ ∃ L nt A cap, e = .returned (.tuple #[.agg #[.slice A L.length cap, .bool nt], .int .i64 1]) ∧ Lib.validD s = true ∧ patS tob (rnsOf s) = some (L, nt) ∧ ∃ b0, B ≤ b0 ∧ w'.ownsRow b0 21 1 (.slice A L.length cap) L.length (L.map rcell)
theorem pattern_any (s : ByteArray) (tob : Bool) (w : World) (hs : s.size ≤ 2000) (hT : Tabs w) :
    Calls Tryd.prog 25 #[.string s, .bool tob] w fun e w' => PatAns s.data.toList tob w.heap.size e w' ∧ Below w.heap.size w w' := by
  cases hv : Lib.validD s.data.toList with
  | false =>
    refine (pattern_bad s tob w hs hT hv).mono ?_
    rintro e w' ⟨h, hb⟩
    exact ⟨.inl ⟨h, fun y => by rw [hv] at y; cases y⟩, hb⟩
  | true =>
    refine (pattern_good s tob w hs hT hv).mono ?_
    rintro e w' ⟨h, hb⟩
    refine ⟨?_, hb⟩
    rcases h with ⟨h1, h2⟩ | ⟨L, nt, A, cap, h1, h2, h3⟩
    · exact .inl ⟨h1, fun _ => h2⟩
    · exact .inr ⟨L, nt, A, cap, h1, hv, h2, h3⟩
/-- the answer of spec.HasPattern -/
def HasAns (s : ByteArray) (e : Ending) : Prop := ∃ n : Nat, e = .returned (.int .i64 n) ∧ (s.size = 0 → n = 0) ∧ (s.size ≠ 0 → n = 1 ∨ n = 2)
theorem spec_has (s : ByteArray) (w : World) (hs : s.size ≤ 2000) (hT : Tabs w) :
    Calls Tryd.prog 12 #[.string s] w fun e w' => HasAns s e ∧ Below w.heap.size w w' := by
  by_cases h0 : s.size = 0
  · obtain rfl : s = ⟨#[]⟩ := by
      apply ByteArray.ext
      apply Array.eq_empty_of_size_eq_zero
      exact h0
    go_enter Tryd.func12, Tryd.ntmps12
    go_wp2
    go_ret
    exact ⟨⟨0, rfl, fun _ => rfl, fun y => absurd rfl y⟩, Below.refl _ _⟩
  · have hne : s.toList.isEmpty = false := by
      rw [Lib.toList_data]
      cases h9 : s.data.toList with
      | nil => exact absurd (by rw [Lib.size_eq, h9]; rfl) h0
      | cons a b => rfl
    have HP := Lib.hid (fun w hT => pattern_any s false w hs hT)
    go_enter Tryd.func12, Tryd.ntmps12
    go_wp2_with (go_at_call 25; with_reducible refine (HP.out _ hT).mono ?_)
    rintro e w1 ⟨h, hb⟩
    rcases h with ⟨⟨A, n, c, b, rfl⟩, _⟩ | ⟨L, nt, A, cap, rfl, _⟩
    · dsimp only
      go_wp2
      go_ret
      exact ⟨⟨2, rfl, fun y => absurd y h0, fun _ => Or.inr rfl⟩, hb.alloc hb.size _⟩
    · dsimp only
      go_wp2
      go_ret
      exact ⟨⟨1, rfl, fun y => absurd y h0, fun _ => Or.inl rfl⟩, hb.alloc hb.size _⟩
/-- the method -/
theorem has_m {f t : List UInt8} {pb : Nat} {w : World} (h : TrIs f t pb w) :
    Calls Tryd.prog 28 #[.pointer (some ⟨pb, 0, none⟩)] w fun e w' => e = .returned (.bool (!f.isEmpty)) ∧ w = w' := by
  have c6 : w.cell? ⟨pb, 6, none⟩ = some (.bool (!f.isEmpty)) := by
    rcases h with ⟨h1, h2, base, vs, vq, vm, vr, h3⟩ | ⟨h1, h2⟩
    · have h4 := (flL_bd f t h2).2.2
      have h5 := h3.blk
      rw [h4] at h5
      have : f.isEmpty = false := by cases f with
        | nil => exact absurd rfl h1
        | cons a b => rfl
      rw [this]
      simp [World.cell?, h5]
    · subst h1
      simp [World.cell?, h2]
  clear h
  generalize (!f.isEmpty) = b at c6 ⊢
  go_enter Tryd.func28, Tryd.ntmps28
  go_wp2
  go_ret
  exact ⟨rfl, rfl⟩
theorem iHas (f t : ByteArray) (w : World) (hT : Tabs w) (hf : f.size ≤ 2000) (ht : t.size ≤ 2147483647) (b : Bool) (hb : (!f.data.toList.isEmpty) = b) :
    Calls Tryd.prog 10 #[.string f, .string t] w fun e w' => e = .returned (.bool b) ∧ Below w.heap.size w w' := by
  have HN := Lib.hid (new_c f t w hT hf ht)
  have HB := Lib.hid hb
  clear hb
  go_enter Tryd.func10, Tryd.ntmps10
  go_wp2_with (go_at_call 27; with_reducible refine HN.out.mono ?_)
  rintro e w1 ⟨pb, rfl, hp, hb1⟩
  have HM := Lib.hid (has_m hp)
  rw [HB.out] at HM
  clear hp
  dsimp only
  go_wp2_with (go_at_call 28; (with_reducible refine HM.out.mono ?_); rintro e w2 ⟨rfl, rfl⟩; dsimp only)
  go_ret
  exact ⟨rfl, hb1⟩
end Go.Proofs.YtdgaehkfdaacjaaDoor
