/- The walks of xstrings.RightJustify, LeftJustify, Center. -/
import Derived.Test.YtobcoplfniojkaaDoorPad
namespace Go.Proofs.YtobcoplfniojkaaDoor
open Go.RowKit Plain

/-- how many pieces are lacking -/
def lack (s : List UInt8) (n : Int) : Nat := (n - ((segs s).length : Int)).toNat
def rightB (s p : List UInt8) (n : Int) : List UInt8 := if n ≤ (segs s).length ∨ p = [] then s else padOf (segs p) (lack s n) ++ s
def leftB (s p : List UInt8) (n : Int) : List UInt8 := if n ≤ (segs s).length ∨ p = [] then s else s ++ padOf (segs p) (lack s n)
def centerB (s p : List UInt8) (n : Int) : List UInt8 := if n ≤ (segs s).length ∨ p = [] then s else padOf (segs p) (lack s n / 2) ++ s ++ padOf (segs p) ((lack s n + 1) / 2)

theorem padOf_length (ps : List (List UInt8)) (k : Nat) : (padOf ps k).length ≤ (k / ps.length + 1) * ps.flatten.length := by
  unfold padOf
  have h : (ps.take (k % ps.length)).flatten.length ≤ ps.flatten.length := by
    have := congrArg (fun x => (List.flatten x).length) (List.take_append_drop (k % ps.length) ps)
    simp only [List.flatten_append, List.length_append] at this
    omega
  have h2 : (List.replicate (k / ps.length) ps.flatten).flatten.length = (k / ps.length) * ps.flatten.length := by
    simp [List.length_flatten, List.map_replicate, List.sum_replicate_nat]
  rw [List.length_append, h2, Nat.succ_mul]
  omega
theorem some_str (l : List UInt8) (s : ByteArray) (h : l = s.data.toList) : s = ⟨l.toArray⟩ := by subst h; rfl

/-- how much is laid by, and that it fits -/
theorem room {S P N k : Nat} (hS : S ≤ 2147483647) (hP : P ≤ 2147483647) (hk : k ≤ 16384) : S + (k / N + 1) * P ≤ 35190000000000 ∧ (k / N + 1) * P ≤ 35190000000000 := by
  have h1 : k / N ≤ k := Nat.div_le_self _ _
  have h2 : (k / N + 1) * P ≤ 16385 * 2147483647 := Nat.mul_le_mul (by omega) hP
  omega

theorem ne_empty {p : ByteArray} (h : p.data.toList ≠ []) : p.toList.isEmpty = false := by
  rw [Lib.toList_data]
  cases hl : p.data.toList with
  | nil => exact absurd hl h
  | cons _ _ => rfl

set_option maxHeartbeats 2000000 in
set_option maxRecDepth 100000 in
theorem right_any (s : ByteArray) (n : Int) (p : ByteArray) (w : World) (hs : s.size ≤ 2147483647) (hps : p.size ≤ 2147483647) (hn : n ≤ 16384) (hn0 : -9223372036854775808 ≤ n) (hT : Tabs w) :
    Calls Tryd.prog 46 #[.string s, .int .i64 n, .string p] w fun e w' => e = .returned (.string ⟨(rightB s.data.toList p.data.toList n).toArray⟩) ∧ Below w.heap.size w w' := by
  have cS := fun w => xlen_any s w (by omega)
  have cP := fun w => xlen_any p w (by omega)
  have hle := segs_le s
  obtain ⟨m, hm⟩ : ∃ m, (segs s.data.toList).length = m := ⟨_, rfl⟩
  by_cases hc : n ≤ m
  · have hz : n ≤ (m : Int) := hc
    have hr : rightB s.data.toList p.data.toList n = s.data.toList := by unfold rightB; rw [if_pos (.inl (by rw [hm]; exact hc))]
    rw [hr]
    rw [hm] at cS
    have HS := Lib.hid cS
    clear cS cP hr hm hc
    go_enter Tryd.func46, Tryd.ntmps46
    go_wp2_with (go_at_call 39; (with_reducible refine (HS.out _).mono ?_); rintro e w1 ⟨rfl, hb1⟩)
    go_ret
    exact ⟨rfl, hb1⟩
  · have hz : ¬ n ≤ (m : Int) := hc
    rw [hm] at cS hle
    by_cases hp0 : p.size = 0
    · obtain rfl : p = ⟨#[]⟩ := ByteArray.ext (Array.eq_empty_of_size_eq_zero hp0)
      have hr : rightB s.data.toList (⟨#[]⟩ : ByteArray).data.toList n = s.data.toList := by unfold rightB; rw [if_pos (.inr rfl)]
      rw [hr]
      have HS := Lib.hid cS
      clear cS cP hr hm hc
      go_enter Tryd.func46, Tryd.ntmps46
      go_wp2_with (go_at_call 39; (with_reducible refine (HS.out _).mono ?_); rintro e w1 ⟨rfl, hb1⟩)
      go_ret
      exact ⟨rfl, hb1⟩
    · have hp : 0 < p.size := by omega
      obtain ⟨k, hk⟩ : ∃ k : Nat, n - (m : Int) = (k : Int) := ⟨(n - m).toNat, by omega⟩
      have hk1 : 0 < k := by omega
      have hk2 : k ≤ 16384 := by omega
      have hN := segs_pos hp
      have hN2 : (segs p.data.toList).length ≤ 2147483647 := Nat.le_trans (segs_le p) hps
      have hp' : p.data.toList ≠ [] := ne_of_pos hp
      have hr : rightB s.data.toList p.data.toList n = padOf (segs p.data.toList) k ++ s.data.toList := by
        unfold rightB lack
        rw [hm, if_neg (by rintro (h | h); exact hc h; exact hp' h), hk]
        rfl
      rw [hr]
      have hpl := padOf_length (segs p.data.toList) k
      rw [segs_flatten, ← Lib.size_eq] at hpl
      have hro := room (N := (segs p.data.toList).length) hs hps hk2
      have cW := fun (b : Nat) (l : List UInt8) (w : World) (h : IsB b l w) (hT : TabsB b w) (hl : l.length ≤ 70368744177664) => writePad_any b l p k w h hT hp hps (by omega) (by omega)
      obtain ⟨PD, hPD⟩ : ∃ PD, padOf (segs p.data.toList) k = PD := ⟨_, rfl⟩
      rw [hPD] at hpl cW
      rw [hPD]
      obtain ⟨N, hNN⟩ : ∃ N, (segs p.data.toList).length = N := ⟨_, rfl⟩
      rw [hNN] at hN hN2 hpl hro cP cW
      obtain ⟨q, hq⟩ : ∃ q, k / N = q := ⟨_, rfl⟩
      rw [hq] at hpl hro
      have hq1 : q ≤ 16384 := by rw [← hq]; exact Nat.le_trans (Nat.div_le_self _ _) hk2
      have hquo : Int.tdiv (k : Int) (N : Int) = (q : Int) := by rw [← hq]; rfl
      obtain ⟨M, hM⟩ : ∃ M, (q + 1) * p.size = M := ⟨_, rfl⟩
      rw [hM] at hpl hro
      have hmul : ((q : Int) + 1) * (p.size : Int) = (M : Int) := by rw [← hM]; simp
      have HS := Lib.hid cS
      have HP := Lib.hid cP
      have HW := Lib.hid cW
      have HR := Lib.hid hpl
      have hM1 : M ≤ 35190000000000 := hro.2
      have hM2 : s.size + M ≤ 35190000000000 := hro.1
      have hpe := ne_empty hp'
      clear cS cP cW hr hm hc hpl hro hq hM hNN hPD hp'
      go_enter Tryd.func46, Tryd.ntmps46
      go_wp2_with (go_at_call 39; (with_reducible refine (HS.out _).mono ?_); rintro e w1 ⟨rfl, hb1⟩)
      go_wp2_with (go_at_call 39; (with_reducible refine (HP.out _).mono ?_); rintro e w2 ⟨rfl, hb2⟩)
      have hB1 := bthen hb1 hb2
      have e1 : (s.size : Int) + (M : Int) = ((s.size + M : Nat) : Int) := by simp
      have HG := Lib.hid (fun (w : World) => grow_any w2.heap.size (s.size + M) (w2.alloc (.cells #[.pointer none, .slice none 0 0] 67)) (fresh_any w2) (by omega))
      rw [← e1] at HG
      go_wp2_with (go_at_call 59; (with_reducible refine (HG.out w).mono ?_))
      rintro e w3 ⟨rfl, hk3, hb3⟩
      dsimp only
      have hB3 : Below w2.heap.size w2 w3 := ((Below.refl _ w2).alloc (Nat.le_refl _) _).trans hb3
      have hT2 := tabsB_of ((hT.below hB1)) hB3
      go_wp2_with (go_at_call 60; (with_reducible refine (HW.out _ _ _ hk3 hT2 (by simp)).mono ?_))
      rintro e w4 ⟨rfl, hk4, hb4⟩
      dsimp only
      rw [List.nil_append] at hk4
      have hl4 : PD.length + s.size ≤ 140737488355328 := by have := HR.out; omega
      go_wp2_with (go_at_call 61; (with_reducible refine (writeString_any _ _ s _ hk4 hl4).mono ?_))
      rintro e w5 ⟨rfl, hk5, hb5, -⟩
      dsimp only
      go_wp2_with (go_at_call 62; (with_reducible refine (string_any _ _ _ hk5).mono ?_))
      rintro e w6 ⟨rfl, -, hb6, -⟩
      dsimp only
      go_wp2
      go_ret
      exact ⟨rfl, bthen hB1 (hB3.trans (hb4.trans (hb5.trans hb6)))⟩
set_option maxRecDepth 100000 in
theorem implRightJustify_any (s : ByteArray) (n : Int) (p : ByteArray) (w : World) (hs : s.size ≤ 2147483647) (hps : p.size ≤ 2147483647) (hn : n ≤ 16384) (hn0 : -9223372036854775808 ≤ n) (hT : Tabs w) :
    Calls Tryd.prog 21 #[.string s, .int .i64 n, .string p] w fun e w' => e = .returned (.string ⟨(rightB s.data.toList p.data.toList n).toArray⟩) ∧ Below w.heap.size w w' := by
  have cC := Lib.hid (right_any s n p w hs hps hn hn0 hT)
  go_enter Tryd.func21, Tryd.ntmps21
  go_wp2_with (go_at_call 46; (with_reducible refine cC.out.mono ?_))
  rintro e w1 ⟨rfl, hb⟩
  dsimp only
  go_wp2
  go_ret
  exact ⟨rfl, hb⟩
end Go.Proofs.YtobcoplfniojkaaDoor
