/- The walks of spec.Partition and spec.LastPartition. -/
import Derived.Test.YtobcoplfniojkaaDoorSPart
import Derived.Laws.ResultCell
import Derived.RegionTactic
set_option linter.unusedVariables false
namespace Go.Proofs.YtobcoplfniojkaaDoor
open Go.RowKit Plain
def P3 (a b c : ByteArray) : Value := .agg #[.string a, .string b, .string c]
def SP (s p : ByteArray) (a b c : Option Nat → ByteArray) (I : Option Nat → Prop) (e : Ending) : Prop :=
  (p.size = 0 ∧ ∃ x y z, e = .returned (.tuple #[P3 x y z, .int .i64 2])) ∨ (p.size ≠ 0 ∧ ∃ r, I r ∧ e = .returned (.tuple #[P3 (a r) (b r) (c r), .int .i64 1]))
theorem three_cells {w : World} {k : Nat} {u v x : Value} {t : TypeId} (h : w.heap[k]? = some (.cells #[u, v, x] t (0, 0))) : w.cell? ⟨k, 0, none⟩ = some u ∧ w.cell? ⟨k, 1, none⟩ = some v ∧ w.cell? ⟨k, 2, none⟩ = some x ∧ w.frozen? ⟨k, 0, none⟩ = false ∧ w.frozen? ⟨k, 1, none⟩ = false ∧ w.frozen? ⟨k, 2, none⟩ = false := by
  simp [World.cell?, World.frozen?, h]
theorem set3 {w : World} {k : Nat} {x y z u v q : Value} {t : TypeId} (h : w.heap[k]? = some (.cells #[x, y, z] t (0, 0))) : (((w.setCell ⟨k, 0, none⟩ u).setCell ⟨k, 1, none⟩ v).setCell ⟨k, 2, none⟩ q).heap[k]? = some (.cells #[u, v, q] t (0, 0)) := by
  simp [World.setCell, Array.getElem?_modify, h]

theorem resPartition {tmps : Array Value} {W : World} {k : Nat} {u v x : ByteArray} {n : Int} (h4 : tmps.getD 4 undef = .pointer (some ⟨k, 0, none⟩)) (h5 : tmps.getD 5 undef = .int .i64 n) (h : W.heap[k]? = some (.cells #[.string u, .string v, .string x] 42 (0, 0))) :
    (results Tryd.f30 tmps).run Tryd.prog W = .ok (.tuple #[P3 u v x, .int .i64 n]) W := by
  obtain ⟨c0, c1, c2, _⟩ := three_cells h
  rw [results_cell_tmp rfl, h4, h5]
  unfold P3
  go_simp
set_option maxHeartbeats 4000000 in
set_option maxRecDepth 100000 in
theorem specPartition_any (s p : ByteArray) (w : World) (hs : s.size ≤ 2147483647) (hp : p.size ≤ 2147483647) : Calls Tryd.prog 30 #[.string s, .string p] w fun e w' => SP s p (p1 s p) (p2 s p) (p3 s p) (IsFst s p) e ∧ Below w.heap.size w w' := by
  have hb0 : Below w.heap.size w (w.alloc (.cells #[.string ⟨#[]⟩, .string ⟨#[]⟩, .string ⟨#[]⟩] 42)) := (Below.refl _ w).alloc (Nat.le_refl _) _
  have hc0 := heap_alloc_new w (.cells #[.string ⟨#[]⟩, .string ⟨#[]⟩, .string ⟨#[]⟩] 42)
  obtain ⟨k0, k1, k2, z0, z1, z2⟩ := three_cells hc0
  by_cases hp0 : p.size = 0
  · obtain ⟨pe, pn⟩ := sj_emp hp0
    clear pn
    go_enter Tryd.func30, Tryd.ntmps30
    go_wp2
    (try simp only [Exit.inBlock, Exit.then])
    refine bodyPost_ret (resPartition (n := 2) (by rfl) (by rfl) hc0) rfl ?_
    exact ⟨.inl ⟨hp0, _, _, _, rfl⟩, hb0⟩
  · obtain ⟨pe, pn⟩ := sj_ne hp0
    have hp1 : 1 ≤ p.size := by omega
    have HSF := Lib.hid (fun (i : Nat) (W : World) (hi : i ≤ s.size) (b : Bool) (hb : occ s p i = b) => stands_any s p i W hs hp (by omega) b hb)
    clear pn
    obtain ⟨W0, hW0⟩ : ∃ W0, w.alloc (.cells #[.string ⟨#[]⟩, .string ⟨#[]⟩, .string ⟨#[]⟩] 42) = W0 := ⟨_, rfl⟩
    rw [hW0] at hc0 hb0 k0 k1 k2 z0 z1 z2
    have HC0 := Lib.hid hc0
    have HB0 := Lib.hid hb0
    clear hc0 hb0
    go_enter Tryd.func30, Tryd.ntmps30
    go_wp2
    go_loopg [6, 12] s.size (fun gh jv iv wr => ∃ i : Nat, iv = .int .i64 i ∧ i ≤ s.size ∧ gh = s.size - i ∧ Hid (∀ j, j < i → occ s p j = false) ∧ W0 = wr)
    case atStart => exact ⟨0, rfl, by omega, by omega, Lib.hid (fun j hj => by omega), rfl⟩
    case round =>
      obtain ⟨i, rfl, hi, rfl, HI, rfl⟩ := hrel
      by_cases hlt : i < s.size
      · have hlz : (i : Int) < (s.size : Int) := by omega
        cases hoc : occ s p i with
        | true =>
          have HF : Hid (IsFst s p (some i)) := Lib.hid ⟨hoc, HI.out⟩
          have HH := Lib.hid (HSF.out i W0 hi true hoc)
          clear hoc
          have hle := occ_le HF.out.1
          obtain ⟨E, hE⟩ : ∃ E, i + p.size = E := ⟨_, rfl⟩
          rw [hE] at hle
          have hEz : (i : Int) + (p.size : Int) = (E : Int) := by omega
          have hiE : i ≤ s.size := by omega
          have HE := Lib.hid hE
          clear hE
          go_wp2_with (go_at_call 52; (with_reducible refine HH.out.mono ?_); rintro e w5 ⟨rfl, rfl⟩; dsimp only)
          go_region
          all_goals
            go_wp2_with fail
            (try simp only [Exit.inBlock, Exit.then])
            refine bodyPost_ret (resPartition (n := 1) (by rfl) (by rfl) (set3 (by first | exact HC0.out | exact HC0.out))) rfl ?_
            refine ⟨.inr ⟨hp0, some i, HF.out, ?_⟩, ((((HB0.out.drew).setCell (Nat.le_refl _) _).setCell (Nat.le_refl _) _).setCell (Nat.le_refl _) _)⟩
            show Ending.returned (.tuple #[P3 (s.extract 0 i) p (s.extract E s.size), .int .i64 1]) = _
            rw [← HE.out]
            rfl
        | false =>
          have HI2 : Hid (∀ j, j < i + 1 → occ s p j = false) := Lib.hid (fun j hj => by
            rcases Nat.lt_or_ge j i with h | h
            · exact HI.out j h
            · obtain rfl : j = i := by omega
              exact hoc)
          have HH := Lib.hid (HSF.out i W0 hi false hoc)
          clear hoc
          go_wp2_with (go_at_call 52; (with_reducible refine HH.out.mono ?_); rintro e w5 ⟨rfl, rfl⟩; dsimp only)
          go_wp2
          go_roundg (s.size - (i + 1))
          case measure => omega
          case rel => exact ⟨i + 1, by go_num, by omega, rfl, HI2, rfl⟩
      · have hlz : ¬ (i : Int) < (s.size : Int) := by omega
        have HF : Hid (IsFst s p none) := Lib.hid (fun j => by
          rcases Nat.lt_or_ge j i with h | h
          · exact HI.out j h
          · exact occ_far (by omega))
        go_wp2
        (try simp only [Exit.inBlock, Exit.then])
        refine bodyPost_ret (resPartition (n := 1) (by rfl) (by rfl) (set3 HC0.out)) rfl ?_
        exact ⟨.inr ⟨hp0, none, HF.out, rfl⟩, ((HB0.out.setCell (Nat.le_refl _) _).setCell (Nat.le_refl _) _).setCell (Nat.le_refl _) _⟩

theorem resLastPartition {tmps : Array Value} {W : World} {k : Nat} {u v x : ByteArray} {n : Int} (h4 : tmps.getD 4 undef = .pointer (some ⟨k, 0, none⟩)) (h5 : tmps.getD 5 undef = .int .i64 n) (h : W.heap[k]? = some (.cells #[.string u, .string v, .string x] 42 (0, 0))) :
    (results Tryd.f31 tmps).run Tryd.prog W = .ok (.tuple #[P3 u v x, .int .i64 n]) W := by
  obtain ⟨c0, c1, c2, _⟩ := three_cells h
  rw [results_cell_tmp rfl, h4, h5]
  unfold P3
  go_simp
set_option maxHeartbeats 4000000 in
set_option maxRecDepth 100000 in
theorem specLastPartition_any (s p : ByteArray) (w : World) (hs : s.size ≤ 2147483647) (hp : p.size ≤ 2147483647) : Calls Tryd.prog 31 #[.string s, .string p] w fun e w' => SP s p (q1 s p) (p2 s p) (q3 s p) (IsLst s p) e ∧ Below w.heap.size w w' := by
  have hb0 : Below w.heap.size w (w.alloc (.cells #[.string ⟨#[]⟩, .string ⟨#[]⟩, .string ⟨#[]⟩] 42)) := (Below.refl _ w).alloc (Nat.le_refl _) _
  have hc0 := heap_alloc_new w (.cells #[.string ⟨#[]⟩, .string ⟨#[]⟩, .string ⟨#[]⟩] 42)
  obtain ⟨k0, k1, k2, z0, z1, z2⟩ := three_cells hc0
  by_cases hp0 : p.size = 0
  · obtain ⟨pe, pn⟩ := sj_emp hp0
    clear pn
    go_enter Tryd.func31, Tryd.ntmps31
    go_wp2
    (try simp only [Exit.inBlock, Exit.then])
    refine bodyPost_ret (resLastPartition (n := 2) (by rfl) (by rfl) hc0) rfl ?_
    exact ⟨.inl ⟨hp0, _, _, _, rfl⟩, hb0⟩
  · obtain ⟨pe, pn⟩ := sj_ne hp0
    have hp1 : 1 ≤ p.size := by omega
    have HSF := Lib.hid (fun (i : Nat) (W : World) (hi : i ≤ s.size) (b : Bool) (hb : occ s p i = b) => stands_any s p i W hs hp (by omega) b hb)
    clear pn
    obtain ⟨W0, hW0⟩ : ∃ W0, w.alloc (.cells #[.string ⟨#[]⟩, .string ⟨#[]⟩, .string ⟨#[]⟩] 42) = W0 := ⟨_, rfl⟩
    rw [hW0] at hc0 hb0 k0 k1 k2 z0 z1 z2
    have HC0 := Lib.hid hc0
    have HB0 := Lib.hid hb0
    clear hc0 hb0
    go_enter Tryd.func31, Tryd.ntmps31
    go_wp2
    go_loopg [6] (s.size) (fun gh iv wr => ∃ i : Int, iv = .int .i64 i ∧ i ≤ (s.size : Int) - 1 ∧ -1 ≤ i ∧ gh = (i + 1).toNat ∧ Hid (∀ j : Nat, i < (j : Int) → occ s p j = false) ∧ W0 = wr)
    case atStart => exact ⟨(s.size : Int) - 1, rfl, by omega, by omega, by omega, Lib.hid (fun j hj => occ_far (by omega)), rfl⟩
    case round =>
      obtain ⟨i, rfl, hi, hi0, rfl, HI, rfl⟩ := hrel
      by_cases h0 : 0 ≤ i
      · obtain ⟨i, rfl⟩ : ∃ k : Nat, i = (k : Int) := ⟨i.toNat, by omega⟩
        cases hoc : occ s p i with
        | true =>
          have HF : Hid (IsLst s p (some i)) := Lib.hid ⟨hoc, fun j hj => HI.out j (by omega)⟩
          have HH := Lib.hid (HSF.out i W0 (by omega) true hoc)
          clear hoc
          have hle := occ_le HF.out.1
          obtain ⟨E, hE⟩ : ∃ E, i + p.size = E := ⟨_, rfl⟩
          rw [hE] at hle
          have hEz : (i : Int) + (p.size : Int) = (E : Int) := by omega
          have hiE : i ≤ s.size := by omega
          have HE := Lib.hid hE
          clear hE
          go_wp2_with (go_at_call 52; (with_reducible refine HH.out.mono ?_); rintro e w5 ⟨rfl, rfl⟩; dsimp only)
          go_region
          all_goals
            go_wp2_with fail
            (try simp only [Exit.inBlock, Exit.then])
            refine bodyPost_ret (resLastPartition (n := 1) (by rfl) (by rfl) (set3 (by first | exact HC0.out | exact HC0.out))) rfl ?_
            refine ⟨.inr ⟨hp0, some i, HF.out, ?_⟩, ((((HB0.out.drew).setCell (Nat.le_refl _) _).setCell (Nat.le_refl _) _).setCell (Nat.le_refl _) _)⟩
            show Ending.returned (.tuple #[P3 (s.extract 0 i) p (s.extract E s.size), .int .i64 1]) = _
            rw [← HE.out]
            rfl
        | false =>
          have HI2 : Hid (∀ j : Nat, (i : Int) - 1 < (j : Int) → occ s p j = false) := Lib.hid (fun j hj => by
            rcases Nat.lt_or_ge i j with h | h
            · exact HI.out j (by omega)
            · obtain rfl : j = i := by omega
              exact hoc)
          have HH := Lib.hid (HSF.out i W0 (by omega) false hoc)
          clear hoc
          go_wp2_with (go_at_call 52; (with_reducible refine HH.out.mono ?_); rintro e w5 ⟨rfl, rfl⟩; dsimp only)
          go_wp2
          go_roundg i
          case measure => omega
          case rel => exact ⟨(i : Int) - 1, by go_num, by omega, by omega, by omega, HI2, rfl⟩
      · have HF : Hid (IsLst s p none) := Lib.hid (fun j => HI.out j (by omega))
        go_wp2
        (try simp only [Exit.inBlock, Exit.then])
        refine bodyPost_ret (resLastPartition (n := 1) (by rfl) (by rfl) (set3 HC0.out)) rfl ?_
        exact ⟨.inr ⟨hp0, none, HF.out, rfl⟩, ((HB0.out.setCell (Nat.le_refl _) _).setCell (Nat.le_refl _) _).setCell (Nat.le_refl _) _⟩
end Go.Proofs.YtobcoplfniojkaaDoor
