/- The walks of the package's Partition and LastPartition; of spec.stands. -/
import Derived.Test.YtobcoplfniojkaaDoorSJust
import Derived.Deep.LoopGhost
set_option linter.unusedVariables false
namespace Go.Proofs.YtobcoplfniojkaaDoor
open Go.RowKit Plain

/-- 'p' stands in 's' at 'i' -/
def occ (s p : ByteArray) (i : Nat) : Bool := decide (i + p.size ≤ s.size) && ((s.extract i (i + p.size)).toList == p.toList)
theorem occ_far {s p : ByteArray} {i : Nat} (h : ¬ i + p.size ≤ s.size) : occ s p i = false := by unfold occ; rw [decide_eq_false h]; rfl
theorem occ_at {s p : ByteArray} {i : Nat} (h : i + p.size ≤ s.size) : occ s p i = ((s.extract i (i + p.size)).toList == p.toList) := by unfold occ; rw [decide_eq_true h]; rfl
def IsFst (s p : ByteArray) : Option Nat → Prop
  | none => ∀ j, occ s p j = false
  | some i => occ s p i = true ∧ ∀ j, j < i → occ s p j = false
def IsLst (s p : ByteArray) : Option Nat → Prop
  | none => ∀ j, occ s p j = false
  | some i => occ s p i = true ∧ ∀ j, i < j → occ s p j = false
theorem fst_uniq {s p : ByteArray} {a b : Option Nat} (ha : IsFst s p a) (hb : IsFst s p b) : a = b := by
  cases a with
  | none => cases b with
    | none => rfl
    | some i => have := ha i; rw [hb.1] at this; cases this
  | some i => cases b with
    | none => have := hb i; rw [ha.1] at this; cases this
    | some j =>
      rcases Nat.lt_trichotomy i j with h | h | h
      · have := hb.2 i h; rw [ha.1] at this; cases this
      · rw [h]
      · have := ha.2 j h; rw [hb.1] at this; cases this
theorem lst_uniq {s p : ByteArray} {a b : Option Nat} (ha : IsLst s p a) (hb : IsLst s p b) : a = b := by
  cases a with
  | none => cases b with
    | none => rfl
    | some i => have := ha i; rw [hb.1] at this; cases this
  | some i => cases b with
    | none => have := hb i; rw [ha.1] at this; cases this
    | some j =>
      rcases Nat.lt_trichotomy i j with h | h | h
      · have := ha.2 j h; rw [hb.1] at this; cases this
      · rw [h]
      · have := hb.2 i h; rw [ha.1] at this; cases this
def idxI : Option Nat → Int
  | none => -1
  | some i => (i : Int)
def emS : ByteArray := ⟨#[]⟩
def p1 (s p : ByteArray) : Option Nat → ByteArray
  | none => s
  | some i => s.extract 0 i
def p2 (s p : ByteArray) : Option Nat → ByteArray
  | none => emS
  | some i => p
def p3 (s p : ByteArray) : Option Nat → ByteArray
  | none => emS
  | some i => s.extract (i + p.size) s.size
def q1 (s p : ByteArray) : Option Nat → ByteArray
  | none => emS
  | some i => s.extract 0 i
def q3 (s p : ByteArray) : Option Nat → ByteArray
  | none => s
  | some i => s.extract (i + p.size) s.size
theorem occ_le {s p : ByteArray} {i : Nat} (h : occ s p i = true) : i + p.size ≤ s.size := by
  unfold occ at h
  rw [Bool.and_eq_true] at h
  exact of_decide_eq_true h.1
theorem occ_eq {s p : ByteArray} {i : Nat} (h : occ s p i = true) : s.extract i (i + p.size) = p := by
  unfold occ at h
  rw [Bool.and_eq_true] at h
  have h2 := eq_of_beq h.2
  rw [ByteArray.toList_eq, ByteArray.toList_eq] at h2
  exact ByteArray.ext (Array.toList_inj.1 h2)
def ZPost (s p : ByteArray) (w : World) (e : Ending) (w' : World) : Prop := (∃ r, IsFst s p r ∧ e = .returned (.int .i64 (idxI r))) ∧ w = w'
def LPost (s p : ByteArray) (w : World) (e : Ending) (w' : World) : Prop := (∃ r, IsLst s p r ∧ e = .returned (.int .i64 (idxI r))) ∧ w = w'
set_option maxHeartbeats 2000000 in
theorem zzIndex_any (s p : ByteArray) (w : World) (hs : s.size ≤ 2147483647) (hp : p.size ≤ 2147483647) : Calls Tryd.prog 63 #[.string s, .string p] w (ZPost s p w) := by
  unfold ZPost
  go_enter Tryd.func63, Tryd.ntmps63
  go_wp2
  go_loopg [5] (s.size + 1) (fun gh iv wr => ∃ i : Nat, iv = .int .i64 i ∧ i ≤ s.size + 1 ∧ gh = s.size + 1 - i ∧ Hid (∀ j, j < i → occ s p j = false) ∧ w = wr)
  case atStart => exact ⟨0, rfl, by omega, by omega, Lib.hid (fun j hj => by omega), rfl⟩
  case round =>
    obtain ⟨i, rfl, hi, rfl, HI, rfl⟩ := hrel
    obtain ⟨E, hE⟩ : ∃ E, i + p.size = E := ⟨_, rfl⟩
    have hEz : (i : Int) + (p.size : Int) = (E : Int) := by omega
    by_cases hle : E ≤ s.size
    · have hlz : (E : Int) ≤ (s.size : Int) := by omega
      have hiE : i ≤ E := by omega
      have HO := Lib.hid (occ_at (s := s) (p := p) (i := i) (by omega))
      rw [hE] at HO
      by_cases hq : ((s.extract i E).toList == p.toList) = true
      · have HF : Hid (IsFst s p (some i)) := Lib.hid ⟨HO.out.trans hq, HI.out⟩
        clear hE
        go_wp2
        go_ret
        exact ⟨⟨some i, HF.out, rfl⟩, rfl⟩
      · have hq2 : ((s.extract i E).toList == p.toList) = false := by simpa using hq
        have HI2 : Hid (∀ j, j < i + 1 → occ s p j = false) := Lib.hid (fun j hj => by
          rcases Nat.lt_or_ge j i with h | h
          · exact HI.out j h
          · obtain rfl : j = i := by omega
            exact HO.out.trans hq2)
        have hi1 : i < s.size + 1 := by omega
        clear hq hE
        go_wp2
        go_roundg (s.size + 1 - (i + 1))
        case measure => omega
        case rel => exact ⟨i + 1, by go_num, by omega, rfl, HI2, rfl⟩
    · have hlz : ¬ (E : Int) ≤ (s.size : Int) := by omega
      have HF : Hid (IsFst s p none) := Lib.hid (fun j => by
        rcases Nat.lt_or_ge j i with h | h
        · exact HI.out j h
        · exact occ_far (by omega))
      clear hE
      go_wp2
      go_ret
      exact ⟨⟨none, HF.out, rfl⟩, rfl⟩
set_option maxHeartbeats 2000000 in
theorem zzLast_any (s p : ByteArray) (w : World) (hs : s.size ≤ 2147483647) (hp : p.size ≤ 2147483647) : Calls Tryd.prog 64 #[.string s, .string p] w (LPost s p w) := by
  unfold LPost
  go_enter Tryd.func64, Tryd.ntmps64
  go_wp2
  go_loopg [5] (((s.size : Int) - (p.size : Int) + 1).toNat) (fun gh iv wr => ∃ i : Int, iv = .int .i64 i ∧ i ≤ (s.size : Int) - (p.size : Int) ∧ -2147483648 ≤ i ∧ gh = (i + 1).toNat ∧ Hid (∀ j : Nat, i < (j : Int) → occ s p j = false) ∧ w = wr)
  case atStart => exact ⟨(s.size : Int) - (p.size : Int), rfl, by omega, by omega, rfl, Lib.hid (fun j hj => occ_far (by omega)), rfl⟩
  case round =>
    obtain ⟨i, rfl, hi, hi0, rfl, HI, rfl⟩ := hrel
    by_cases h0 : 0 ≤ i
    · obtain ⟨i, rfl⟩ : ∃ k : Nat, i = (k : Int) := ⟨i.toNat, by omega⟩
      obtain ⟨E, hE⟩ : ∃ E, i + p.size = E := ⟨_, rfl⟩
      have hEz : (i : Int) + (p.size : Int) = (E : Int) := by omega
      have hlz : (E : Int) ≤ (s.size : Int) := by omega
      have hle : E ≤ s.size := by omega
      have hiE : i ≤ E := by omega
      have HO := Lib.hid (occ_at (s := s) (p := p) (i := i) (by omega))
      rw [hE] at HO
      by_cases hq : ((s.extract i E).toList == p.toList) = true
      · have HF : Hid (IsLst s p (some i)) := Lib.hid ⟨HO.out.trans hq, fun j hj => HI.out j (by omega)⟩
        clear hE
        go_wp2
        go_ret
        exact ⟨⟨some i, HF.out, rfl⟩, rfl⟩
      · have hq2 : ((s.extract i E).toList == p.toList) = false := by simpa using hq
        have HI2 : Hid (∀ j : Nat, (i : Int) - 1 < (j : Int) → occ s p j = false) := Lib.hid (fun j hj => by
          rcases Nat.lt_or_ge i j with h | h
          · exact HI.out j (by omega)
          · obtain rfl : j = i := by omega
            exact HO.out.trans hq2)
        clear hq hE
        go_wp2
        go_roundg i
        case measure => omega
        case rel => exact ⟨(i : Int) - 1, by go_num, by omega, by omega, by omega, HI2, rfl⟩
    · have HF : Hid (IsLst s p none) := Lib.hid (fun j => HI.out j (by omega))
      go_wp2
      go_ret
      exact ⟨⟨none, HF.out, rfl⟩, rfl⟩

def PPost (a b c : Option Nat → ByteArray) (I : Option Nat → Prop) (w : World) (e : Ending) (w' : World) : Prop := (∃ r, I r ∧ e = .returned (.tuple #[.string (a r), .string (b r), .string (c r)])) ∧ w = w'
set_option maxHeartbeats 2000000 in
theorem xPartition_any (s p : ByteArray) (w : World) (hs : s.size ≤ 2147483647) (hp : p.size ≤ 2147483647) : Calls Tryd.prog 53 #[.string s, .string p] w (PPost (p1 s p) (p2 s p) (p3 s p) (IsFst s p) w) := by
  unfold PPost
  have HZ := Lib.hid (zzIndex_any s p w hs hp)
  go_enter Tryd.func53, Tryd.ntmps53
  go_wp2_with (go_at_call 63; with_reducible refine HZ.out.mono ?_)
  rintro e w1 ⟨⟨r, hr, rfl⟩, rfl⟩
  have HR := Lib.hid hr
  clear hr
  cases r with
  | none =>
    dsimp only [idxI]
    go_wp2
    go_ret3
    exact ⟨⟨none, HR.out, rfl⟩, rfl⟩
  | some i =>
    have hle := occ_le HR.out.1
    have HQ := Lib.hid (occ_eq HR.out.1)
    obtain ⟨E, hE⟩ : ∃ E, i + p.size = E := ⟨_, rfl⟩
    rw [hE] at hle HQ
    have hEz : (i : Int) + (p.size : Int) = (E : Int) := by omega
    have hiE : i ≤ E := by omega
    have hz : ((i : Int) == -1) = false := by rw [beq_eq_false_iff_ne]; omega
    have HE := Lib.hid hE
    clear hE
    dsimp only [idxI]
    go_wp2
    go_ret3
    refine ⟨⟨some i, HR.out, ?_⟩, rfl⟩
    show Ending.returned (.tuple #[.string (s.extract 0 i), .string (s.extract i E), .string (s.extract E s.size)]) = _
    rw [HQ.out, ← HE.out]
    rfl
theorem iPartition_any (s p : ByteArray) (w : World) (hs : s.size ≤ 2147483647) (hp : p.size ≤ 2147483647) : Calls Tryd.prog 32 #[.string s, .string p] w (PPost (p1 s p) (p2 s p) (p3 s p) (IsFst s p) w) := by
  unfold PPost
  have HZ := Lib.hid (xPartition_any s p w hs hp)
  go_enter Tryd.func32, Tryd.ntmps32
  go_wp2_with (go_at_call 53; with_reducible refine HZ.out.mono ?_)
  rintro e w1 ⟨⟨r, hr, rfl⟩, rfl⟩
  dsimp only
  go_wp2
  go_ret3
  exact ⟨⟨r, hr, rfl⟩, rfl⟩

set_option maxHeartbeats 2000000 in
theorem xLastPartition_any (s p : ByteArray) (w : World) (hs : s.size ≤ 2147483647) (hp : p.size ≤ 2147483647) : Calls Tryd.prog 54 #[.string s, .string p] w (PPost (q1 s p) (p2 s p) (q3 s p) (IsLst s p) w) := by
  unfold PPost
  have HZ := Lib.hid (zzLast_any s p w hs hp)
  go_enter Tryd.func54, Tryd.ntmps54
  go_wp2_with (go_at_call 64; with_reducible refine HZ.out.mono ?_)
  rintro e w1 ⟨⟨r, hr, rfl⟩, rfl⟩
  have HR := Lib.hid hr
  clear hr
  cases r with
  | none =>
    dsimp only [idxI]
    go_wp2
    go_ret3
    exact ⟨⟨none, HR.out, rfl⟩, rfl⟩
  | some i =>
    have hle := occ_le HR.out.1
    have HQ := Lib.hid (occ_eq HR.out.1)
    obtain ⟨E, hE⟩ : ∃ E, i + p.size = E := ⟨_, rfl⟩
    rw [hE] at hle HQ
    have hEz : (i : Int) + (p.size : Int) = (E : Int) := by omega
    have hiE : i ≤ E := by omega
    have hz : ((i : Int) == -1) = false := by rw [beq_eq_false_iff_ne]; omega
    have HE := Lib.hid hE
    clear hE
    dsimp only [idxI]
    go_wp2
    go_ret3
    refine ⟨⟨some i, HR.out, ?_⟩, rfl⟩
    show Ending.returned (.tuple #[.string (s.extract 0 i), .string (s.extract i E), .string (s.extract E s.size)]) = _
    rw [HQ.out, ← HE.out]
    rfl
theorem iLastPartition_any (s p : ByteArray) (w : World) (hs : s.size ≤ 2147483647) (hp : p.size ≤ 2147483647) : Calls Tryd.prog 33 #[.string s, .string p] w (PPost (q1 s p) (p2 s p) (q3 s p) (IsLst s p) w) := by
  unfold PPost
  have HZ := Lib.hid (xLastPartition_any s p w hs hp)
  go_enter Tryd.func33, Tryd.ntmps33
  go_wp2_with (go_at_call 54; with_reducible refine HZ.out.mono ?_)
  rintro e w1 ⟨⟨r, hr, rfl⟩, rfl⟩
  dsimp only
  go_wp2
  go_ret3
  exact ⟨⟨r, hr, rfl⟩, rfl⟩

set_option maxHeartbeats 2000000 in
theorem stands_any (s p : ByteArray) (i : Nat) (w : World) (hs : s.size ≤ 2147483647) (hp : p.size ≤ 2147483647) (hi : i ≤ 2147483647) (b : Bool) (hb : occ s p i = b) : Calls Tryd.prog 52 #[.string s, .string p, .int .i64 (i : Int)] w fun e w' => e = .returned (.bool b) ∧ w = w' := by
  obtain ⟨E, hE⟩ : ∃ E, i + p.size = E := ⟨_, rfl⟩
  have hEz : (i : Int) + (p.size : Int) = (E : Int) := by omega
  by_cases hle : E ≤ s.size
  · have hlz : (E : Int) ≤ (s.size : Int) := by omega
    have hiE : i ≤ E := by omega
    have HO := occ_at (s := s) (p := p) (i := i) (by omega)
    rw [hE, hb] at HO
    have HO2 := HO.symm
    clear HO hb hE
    go_enter Tryd.func52, Tryd.ntmps52
    go_wp2
    go_ret
    exact ⟨rfl, rfl⟩
  · have hlz : ¬ (E : Int) ≤ (s.size : Int) := by omega
    obtain rfl : b = false := hb.symm.trans (occ_far (by omega))
    clear hb hE
    go_enter Tryd.func52, Tryd.ntmps52
    go_wp2
    go_ret
    exact ⟨rfl, rfl⟩
end Go.Proofs.YtobcoplfniojkaaDoor
