/- GetComments of properties in memory. -/
import Derived.Test.YtackciefmdiphaaGreatDoorParM3
set_option linter.unusedVariables false
namespace Go.Proofs.YtackciefmdiphaaGreatDoor
open Go.RowKit Plain Go.Maps

theorem zeroRow (w : World) : (zeroValue 22).run Tryz.prog w = .ok (.slice none 0 0) w := by kernel_rfl
set_option maxRecDepth 100000 in
theorem comGet_any (pb mc nc : Nat) (DC : DataW Value) (k : ByteArray) (w : World) (c4 : w.cell? ⟨pb, 4, none⟩ = some (.map (some mc))) (hm : MpC w mc nc DC) (hk : k.size ≤ 2147483647) :
    Calls Tryz.prog 52 #[.pointer (some ⟨pb, 0, none⟩), .string k] w fun e w' => (∃ v, e = .returned v ∧ (Maps.has DC (keyL8 k) = true → DC.atKey (keyL8 k) (.held (.slice none 0 0)) = .held v) ∧ (Maps.has DC (keyL8 k) = false → v = .slice none 0 0)) ∧ w' = w := by
  have HM := Lib.hid hm
  have hkm : k.size ≤ maxLen := by unfold maxLen; omega
  obtain ⟨hb, hhb⟩ : ∃ hb, Maps.has DC (.string k.data.toList) = hb := ⟨_, rfl⟩
  have HHB : Hid (Maps.has DC (keyL8 k) = hb) := Lib.hid hhb
  clear hm
  cases hb
  · go_enter Tryz.func52, Tryz.ntmps52
    go_wp2_with (at_lookup; refine wpList_lookup_own_ok _ rfl _ _ 84 rfl 9 22 lawS Tryz.underlying84 rawR (zeroRow _) (.held (.slice none 0 0)) [] rfl mc nc DC rfl HM.out _ _ rfl (WideMaps.keyOf_string_mk Tryz.underlying9 hkm) ?_; intro v0 ps0 hv0; rw [hhb]; clear hv0)
    go_ret
    exact ⟨⟨_, rfl, (fun h => by rw [HHB.out] at h; cases h), fun _ => rfl⟩, rfl⟩
  · go_enter Tryz.func52, Tryz.ntmps52
    go_wp2_with (at_lookup; refine wpList_lookup_own_ok _ rfl _ _ 84 rfl 9 22 lawS Tryz.underlying84 rawR (zeroRow _) (.held (.slice none 0 0)) [] rfl mc nc DC rfl HM.out _ _ rfl (WideMaps.keyOf_string_mk Tryz.underlying9 hkm) ?_; intro v0 ps0 hv0; rw [hhb]; have HV0 := Lib.hid hv0; clear hv0)
    go_ret
    exact ⟨⟨v0, rfl, fun _ => by
      have h := HV0.out
      unfold rawR at h
      injection h with h
      injection h with h1 h2
      exact h1.symm, (fun h => by rw [HHB.out] at h; cases h)⟩, rfl⟩
end Go.Proofs.YtackciefmdiphaaGreatDoor
