/- The parser's unexpected and expectOneOf: an item of certain kinds, or a panic. -/
import Derived.Test.YtackciefmdiphaaGreatDoorParItem
set_option linter.unusedVariables false
namespace Go.Proofs.YtackciefmdiphaaGreatDoor
open Go.RowKit Plain

/-- a panic with a new error -/
def PanErr (w : World) (e : Ending) (w' : World) : Prop := ∃ N : Nat, e = .panicked [{ v := .iface 194 (.pointer (some ⟨N, 0, none⟩)), recovered := false }] ∧ Below w.heap.size w w'
set_option maxRecDepth 100000 in
theorem unexpected_any (p : Value) (w : World) : Calls Tryz.prog 110 #[p] w (PanErr w) := by
  unfold PanErr
  have HE := Lib.hid (newErr_any ⟨#[117, 110, 101, 120, 112, 101, 99, 116, 101, 100, 32, 116, 111, 107, 101, 110]⟩ w)
  go_enter Tryz.func110, Tryz.ntmps110
  go_wp2_with (go_at_call 111; (with_reducible refine HE.out.mono ?_); rintro e w1 ⟨N, rfl, hc, hb⟩; dsimp only)
  have HB := Lib.hid hb
  clear hb hc
  go_wp2
  exact ⟨rfl, N, rfl, HB.out⟩
/-- a row of kinds -/
def KindsAt (E : Nat) (es : List Nat) (w : World) : Prop := ∀ (i k : Nat), es[i]? = some k → w.cell? ⟨E, i, none⟩ = some (.int .i64 (k : Int))
def EItem (lb : Nat) (s : ByteArray) (x : LI) (g o m c : Nat) (w : World) (e : Ending) (w' : World) : Prop :=
  e = .returned (itemV x) ∧ KeepB lb w w' ∧ (∀ B, B ≤ lb → B ≤ w.heap.size → Below B w w') ∧ ∃ st pos start wd lp rv iv, w'.heap[lb]? = some (lxC s st pos start wd lp rv iv) ∧ (0 < m → iv = .slice (some ⟨g, o + 3, none⟩) m (c - 1))
def EBad (lb : Nat) (w : World) (e : Ending) (w' : World) : Prop := ∃ N : Nat, e = .panicked [{ v := .iface 194 (.pointer (some ⟨N, 0, none⟩)), recovered := false }] ∧ KeepB lb w w' ∧ (∀ B, B ≤ lb → B ≤ w.heap.size → Below B w w')
set_option maxHeartbeats 4000000 in
set_option maxRecDepth 100000 in
theorem expect_any (q lb : Nat) (s : ByteArray) (x : LI) (g o m c E : Nat) (es : List Nat) (ne : Nat) (hne : es.length = ne) (st : Value) (pos start wd : Nat) (lp : Int) (rv : Value) (w : World) (h : w.heap[lb]? = some (lxC s st pos start wd lp rv (.slice (some ⟨g, o, none⟩) (m + 1) c))) (hq : w.cell? ⟨q, 0, none⟩ = some (.pointer (some ⟨lb, 0, none⟩))) (hE : KindsAt E es w) (hEl : lb ≠ E) (hEs : E < w.heap.size) (hx : ItemAt g o x w) (hc : m + 1 ≤ c) (hc2 : c ≤ 9223372036854775807) (hn : ne ≤ 10) :
    Calls Tryz.prog 95 #[.pointer (some ⟨q, 0, none⟩), .slice (some ⟨E, 0, none⟩) ne ne] w fun e w' => (x.kind ∈ es → EItem lb s x g o m c w e w') ∧ (¬ x.kind ∈ es → EBad lb w e w') := by
  have HNX := Lib.hid (fun w' (hb : Below w.heap.size w w') => nextItem_any lb s x g o m c st pos start wd lp rv w' ((hb.block lb (Array.getElem?_eq_some_iff.1 h).1).trans h) ⟨(hb.cell (Lib.lt_of_cell hx.1)).trans hx.1, (hb.cell (Lib.lt_of_cell hx.2.1)).trans hx.2.1, (hb.cell (Lib.lt_of_cell hx.2.2)).trans hx.2.2⟩ hc hc2)
  have HE := Lib.hid hE
  have HNE := Lib.hid hne
  have hlw := (Array.getElem?_eq_some_iff.1 h).1
  have HK0 : Hid (KeepB lb w (w.alloc (.cells #[.int .i64 0, .int .i64 0, .string ⟨#[]⟩] 121))) := Lib.hid (KeepB.of ((Below.refl _ w).alloc (Nat.le_refl _) _))
  have HB0 : Hid (Below w.heap.size w (w.alloc (.cells #[.int .i64 0, .int .i64 0, .string ⟨#[]⟩] 121))) := Lib.hid ((Below.refl _ w).alloc (Nat.le_refl _) _)
  obtain ⟨K, hK⟩ : ∃ K : Int, (x.kind : Int) = K := ⟨_, rfl⟩
  obtain ⟨P, hP⟩ : ∃ P : Int, (x.pos : Int) = P := ⟨_, rfl⟩
  obtain ⟨T, hT⟩ : ∃ T, x.text = T := ⟨_, rfl⟩
  have hv : itemV x = .agg #[.int .i64 K, .int .i64 P, .string T] := by unfold itemV; rw [hK, hP, hT]
  have HV := Lib.hid hv
  have HKK := Lib.hid hK
  obtain ⟨D, hD⟩ : ∃ D, w.heap.size = D := ⟨_, rfl⟩
  have hqa : ∀ o, (w.alloc o).cell? ⟨q, 0, none⟩ = some (.pointer (some ⟨lb, 0, none⟩)) := fun o => (((Below.refl w.heap.size w).alloc (Nat.le_refl _) o).cell (Lib.lt_of_cell hq)).trans hq
  have HEX : Hid (∀ j k : Nat, es[j]? = some k → E < D ∧ E ≠ lb ∧ w.cell? ⟨E, j, none⟩ = some (.int .i64 (k : Int))) := Lib.hid (fun j k hj => ⟨hD ▸ hEs, fun e => hEl e.symm, hE j k hj⟩)
  have hlD : lb < D := hD ▸ hlw
  have hDs : (w.alloc (.cells #[.int .i64 0, .int .i64 0, .string ⟨#[]⟩] 121)).heap.size = D + 1 := by simp [hD]
  have hDb : (w.alloc (.cells #[.int .i64 0, .int .i64 0, .string ⟨#[]⟩] 121)).heap[D]? = some (.cells #[.int .i64 0, .int .i64 0, .string ⟨#[]⟩] 121 (0, 0)) := by rw [← hD]; exact heap_alloc_new w _
  have HDS := Lib.hid hDs
  have HDB := Lib.hid hDb
  have HDD := Lib.hid hD
  clear h hE hne hx hv hK hP hT hD hDs hDb hq
  go_enter Tryz.func95, Tryz.ntmps95
  go_wp2_with (go_at_call 109; (with_reducible refine (HNX.out _ HB0.out).mono ?_); rintro e w1 ⟨rfl, hk, hbw, st', pos', start', wd', lp', rv', iv', ha, hiv⟩; rw [HV.out]; (try rw [HDD.out]); have hd1 : w1.heap[D]? = some (.cells #[.int .i64 0, .int .i64 0, .string ⟨#[]⟩] 121 (0, 0)) := (hk.2 D (by rw [HDS.out]; omega) (by omega)).trans HDB.out; have k0 : w1.cell? ⟨D, 0, none⟩ = some (.int .i64 0) := (by simp [World.cell?, hd1]); have k1 : w1.cell? ⟨D, 1, none⟩ = some (.int .i64 0) := (by simp [World.cell?, hd1]); have k2 : w1.cell? ⟨D, 2, none⟩ = some (.string ⟨#[]⟩) := (by simp [World.cell?, hd1]); have k3 : w1.frozen? ⟨D, 0, none⟩ = false := (by simp [World.frozen?, hd1]); have k4 : w1.frozen? ⟨D, 1, none⟩ = false := (by simp [World.frozen?, hd1]); have k5 : w1.frozen? ⟨D, 2, none⟩ = false := (by simp [World.frozen?, hd1]); dsimp only)
  obtain ⟨W2, hW2⟩ : ∃ W2, ((w1.setCell ⟨D, 0, none⟩ (.int .i64 K)).setCell ⟨D, 1, none⟩ (.int .i64 P)).setCell ⟨D, 2, none⟩ (.string T) = W2 := ⟨_, rfl⟩
  have hd2 : W2.heap[D]? = some (.cells #[.int .i64 K, .int .i64 P, .string T] 121 (0, 0)) := by rw [← hW2]; exact (lx_set (lx_set (lx_set hd1 0 (.int .i64 K)) 1 (.int .i64 P)) 2 (.string T)).trans rfl
  have h2j : ∀ j, j ≠ D → W2.heap[j]? = w1.heap[j]? := fun j hj => by rw [← hW2]; exact ((Below.heap_setCell _ _ _ _ hj).trans (Below.heap_setCell _ _ _ _ hj)).trans (Below.heap_setCell _ _ _ _ hj)
  have h2s : W2.heap.size = w1.heap.size := by rw [← hW2]; simp [World.setCell]
  have hkw : KeepB lb w w1 := HK0.out.trans hk
  have HK2 : Hid (KeepB lb w W2) := Lib.hid ⟨by rw [h2s]; exact hkw.1, fun j hj hn => (h2j j (by have := HDD.out; omega)).trans (hkw.2 j hj hn)⟩
  have HA2 : Hid (W2.heap[lb]? = some (lxC s st' pos' start' wd' lp' rv' iv')) := Lib.hid ((h2j lb (by omega)).trans ha)
  have HIV := Lib.hid hiv
  have HBW : Hid (∀ B, B ≤ lb → B ≤ w.heap.size → Below B w W2) := Lib.hid (fun B h1 h2 => by
    rw [← hW2]
    have q1 : Below B w w1 := ((Below.refl B w).alloc h2 _).trans (hbw B h1 (by rw [HDS.out]; have := HDD.out; omega))
    have q2 : B ≤ D := by have := HDD.out; omega
    exact ((q1.setCell (p := ⟨D, 0, none⟩) q2 _).setCell (p := ⟨D, 1, none⟩) q2 _).setCell (p := ⟨D, 2, none⟩) q2 _)
  have HD2 := Lib.hid hd2
  have HE2 : Hid (∀ j k : Nat, es[j]? = some k → W2.cell? ⟨E, j, none⟩ = some (.int .i64 (k : Int))) := Lib.hid (fun j k hj => by
    obtain ⟨h1, h2, h3⟩ := HEX.out j k hj
    have hb : W2.heap[E]? = w.heap[E]? := (h2j E (by omega)).trans (hkw.2 E (by have := HDD.out; omega) h2)
    unfold World.cell? at h3 ⊢
    rw [hb]
    exact h3)
  rw [hW2]
  have z0 : W2.cell? ⟨D, 0, none⟩ = some (.int .i64 K) := by simp [World.cell?, hd2]
  have z1 : W2.cell? ⟨D, 1, none⟩ = some (.int .i64 P) := by simp [World.cell?, hd2]
  have z2 : W2.cell? ⟨D, 2, none⟩ = some (.string T) := by simp [World.cell?, hd2]
  have y0 : W2.frozen? ⟨D, 0, none⟩ = false := by simp [World.frozen?, hd2]
  have y1 : W2.frozen? ⟨D, 1, none⟩ = false := by simp [World.frozen?, hd2]
  have y2 : W2.frozen? ⟨D, 2, none⟩ = false := by simp [World.frozen?, hd2]
  clear hd1 k0 k1 k2 k3 k4 k5 hW2 hd2 h2j h2s hkw hk ha hiv HNX hqa hbw
  go_loopg [14] ne (fun g iv wr => ∃ i : Nat, iv = .int .i64 i ∧ i ≤ ne ∧ g = ne - i ∧ Hid (∀ j k : Nat, j < i → es[j]? = some k → k ≠ x.kind) ∧ W2 = wr)
  case atStart => exact ⟨0, rfl, Nat.zero_le _, rfl, Lib.hid (fun j k hj => by omega), rfl⟩
  case round =>
    obtain ⟨i, rfl, hi, rfl, HNO, rfl⟩ := hrel
    by_cases hin : i < ne
    · have hiz : (i : Int) < (ne : Int) := by omega
      have hil : i < es.length := by rw [HNE.out]; exact hin
      obtain ⟨k, hk⟩ : ∃ k, es[i]? = some k := ⟨_, List.getElem?_eq_getElem hil⟩
      have hce := HE2.out i k hk
      have HKI := Lib.hid hk
      by_cases he : k = x.kind
      · have hkk : (k : Int) = K := by rw [he]; exact HKK.out
        have HMEM : Hid (x.kind ∈ es) := Lib.hid (he ▸ List.mem_of_getElem? hk)
        rw [hkk] at hce
        clear hk he hkk
        go_wp2
        obtain ⟨W3, hW3⟩ : ∃ W3, ((W2.setCell ⟨D, 0, none⟩ (.int .i64 K)).setCell ⟨D, 1, none⟩ (.int .i64 P)).setCell ⟨D, 2, none⟩ (.string T) = W3 := ⟨_, rfl⟩
        have hd3 : W3.heap[D]? = some (.cells #[.int .i64 K, .int .i64 P, .string T] 121 (0, 0)) := by rw [← hW3]; exact (lx_set (lx_set (lx_set HD2.out 0 (.int .i64 K)) 1 (.int .i64 P)) 2 (.string T)).trans rfl
        have h3j : ∀ j, j ≠ D → W3.heap[j]? = W2.heap[j]? := fun j hj => by rw [← hW3]; exact ((Below.heap_setCell _ _ _ _ hj).trans (Below.heap_setCell _ _ _ _ hj)).trans (Below.heap_setCell _ _ _ _ hj)
        have h3s : W3.heap.size = W2.heap.size := by rw [← hW3]; simp [World.setCell]
        rw [hW3]
        have r0 : W3.cell? ⟨D, 0, none⟩ = some (.int .i64 K) := by simp [World.cell?, hd3]
        have r1 : W3.cell? ⟨D, 1, none⟩ = some (.int .i64 P) := by simp [World.cell?, hd3]
        have r2 : W3.cell? ⟨D, 2, none⟩ = some (.string T) := by simp [World.cell?, hd3]
        refine bodyPost_ret (v := .agg #[.int .i64 K, .int .i64 P, .string T]) (by simp [results, Tryz.results95, go_sem, r0, r1, r2]) rfl ?_
        refine ⟨fun _ => ⟨by rw [HV.out], ⟨by rw [h3s]; exact HK2.out.1, fun j hj hn => (h3j j (by have := HDD.out; omega)).trans (HK2.out.2 j hj hn)⟩, fun B h1 h2 => by rw [← hW3]; have q2 : B ≤ D := (by have := HDD.out; omega); exact (((HBW.out B h1 h2).setCell (p := ⟨D, 0, none⟩) q2 _).setCell (p := ⟨D, 1, none⟩) q2 _).setCell (p := ⟨D, 2, none⟩) q2 _, st', pos', start', wd', lp', rv', iv', (h3j lb (by omega)).trans HA2.out, HIV.out⟩, fun h => absurd HMEM.out h⟩
      · have hne2 : (K == (k : Int)) = false := by rw [beq_eq_false_iff_ne, ← HKK.out]; omega
        have HNO2 : Hid (∀ j k : Nat, j < i + 1 → es[j]? = some k → k ≠ x.kind) := Lib.hid (fun j k' hj hjk => by
          by_cases hji : j < i
          · exact HNO.out j k' hji hjk
          · obtain rfl : j = i := by omega
            rw [HKI.out] at hjk
            obtain rfl := Option.some.inj hjk
            exact he)
        clear hk he
        go_wp2
        go_roundg (ne - (i + 1))
        case measure => omega
        case rel => exact ⟨i + 1, by go_num, by omega, rfl, HNO2, rfl⟩
    · have hiz : ¬ (i : Int) < (ne : Int) := by omega
      have HUN := Lib.hid (unexpected_any (.pointer (some ⟨q, 0, none⟩)) W2)
      go_wp2_with (go_at_call 110; (with_reducible refine HUN.out.mono ?_); rintro e w4 ⟨N, rfl, hb4⟩)
      have hnot : ¬ x.kind ∈ es := fun h => by
        obtain ⟨j, hj⟩ := List.getElem?_of_mem h
        have hjl := (List.getElem?_eq_some_iff.1 hj).1
        exact HNO.out j x.kind (by have := HNE.out; omega) hj rfl
      exact ⟨rfl, fun h => absurd h hnot, fun _ => ⟨N, rfl, HK2.out.trans (KeepB.of hb4), fun B h1 h2 => (HBW.out B h1 h2).trans (hb4.mono (Nat.le_trans h2 HK2.out.1))⟩⟩
end Go.Proofs.YtackciefmdiphaaGreatDoor
