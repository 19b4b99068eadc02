/- properties.zzIndex: where a text stands first in another one. -/
import Derived.Test.YtackciefmdiphaaDoorLoadP
import Derived.LoopTactic
set_option linter.unusedVariables false
namespace Go.Proofs.YtackciefmdiphaaDoor
open Go.RowKit Plain Go.Maps

/-- where a text stands first, from a place on (by fuel) -/
def zixN (s t : ByteArray) : Nat → Nat → Option Nat
  | 0, _ => none
  | f + 1, i => if i + t.size ≤ s.size then (if (s.extract i (i + t.size)).toList == t.toList then some i else zixN s t f (i + 1)) else none
def zix (s t : ByteArray) : Option Nat := zixN s t (s.size + 2) 0
def zixV (o : Option Nat) : Int := match o with | some i => (i : Int) | none => -1
theorem zixN_le (s t : ByteArray) : ∀ (f i j : Nat), zixN s t f i = some j → i ≤ j ∧ j + t.size ≤ s.size := by
  intro f
  induction f with
  | zero => intro i j h; cases h
  | succ f ih =>
    intro i j h
    unfold zixN at h
    split at h
    · split at h
      · injection h with h; subst h; exact ⟨Nat.le_refl _, by assumption⟩
      · have := ih _ _ h; omega
    · cases h
theorem zix_le {s t : ByteArray} {j : Nat} (h : zix s t = some j) : j + t.size ≤ s.size := (zixN_le s t _ _ _ h).2
set_option maxHeartbeats 2000000 in
set_option maxRecDepth 100000 in
theorem zzIndex_any (s t : ByteArray) (w : World) (hs : s.size ≤ 1152921504606846976) (ht : t.size ≤ 1000000000) :
    Calls Tryd.prog 31 #[.string s, .string t] w fun e w' => e = .returned (.int .i64 (zixV (zix s t))) ∧ w' = w := by
  obtain ⟨o, ho⟩ : ∃ o, zix s t = o := ⟨_, rfl⟩
  rw [ho]
  have HO := Lib.hid ho
  obtain ⟨n, hn⟩ : ∃ n, s.size = n := ⟨_, rfl⟩
  obtain ⟨m, hm⟩ : ∃ n, t.size = n := ⟨_, rfl⟩
  rw [hn] at hs
  rw [hm] at ht
  have HM := Lib.hid hm
  have HN := Lib.hid hn
  clear ho
  go_enter Tryd.func31, Tryd.ntmps31
  go_wp2
  go_loopg [5] (n + 2) (fun g' v5 wr => ∃ i : Nat, v5 = .int .i64 (i : Int) ∧ i ≤ n + 1 ∧ g' = n + 2 - i ∧ Hid (zixN s t (n + 2 - i) i = o) ∧ wr = w)
  case atStart => exact ⟨0, rfl, Nat.zero_le _, rfl, Lib.hid (by rw [← HO.out, ← HN.out]; rfl), rfl⟩
  case round =>
    obtain ⟨i, rfl, hin, rfl, HZ, rfl⟩ := hrel
    by_cases hlt : i + m ≤ n
    · obtain ⟨E, hE⟩ : ∃ E, i + m = E := ⟨_, rfl⟩
      have hi2 : (i : Int) + (m : Int) = (E : Int) := by omega
      have hiz : (E : Int) ≤ (n : Int) := by omega
      have hiE : (i : Int) ≤ (E : Int) := by omega
      have hE0 : (0 : Int) ≤ (E : Int) := by omega
      have hst := HZ.out
      rw [show n + 2 - i = (n + 1 - i) + 1 by omega] at hst
      unfold zixN at hst
      rw [HM.out, HN.out, if_pos hlt, hE] at hst
      have HE := Lib.hid hE
      clear hE
      obtain ⟨b, hb⟩ : ∃ b, ((s.extract i E).toList == t.toList) = b := ⟨_, rfl⟩
      rw [hb] at hst
      have HST := Lib.hid hst
      clear hst
      cases b with
      | true =>
        go_wp2
        go_ret
        have := HST.out
        simp at this
        exact ⟨by rw [← this]; rfl, rfl⟩
      | false =>
        have HZ2 : Hid (zixN s t (n + 2 - (i + 1)) (i + 1) = o) := Lib.hid (by
          have := HST.out
          simp at this
          rw [show n + 2 - (i + 1) = n + 1 - i by omega]
          exact this)
        go_wp2
        go_roundg (n + 2 - (i + 1))
        case measure => omega
        case rel => exact ⟨i + 1, by go_num, by omega, rfl, HZ2, rfl⟩
    · have hiz : ¬ (i : Int) + (m : Int) ≤ (n : Int) := by omega
      have hst := HZ.out
      rw [show n + 2 - i = (n + 1 - i) + 1 by omega] at hst
      unfold zixN at hst
      rw [HM.out, HN.out, if_neg hlt] at hst
      subst hst
      go_wp2
      go_ret
      exact ⟨rfl, rfl⟩
end Go.Proofs.YtackciefmdiphaaDoor
