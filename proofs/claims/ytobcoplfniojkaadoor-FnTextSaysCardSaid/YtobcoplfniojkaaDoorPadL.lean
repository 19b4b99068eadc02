/- The walk of laws.pad: runes, round and round. -/
import Derived.Test.YtobcoplfniojkaaDoorRunes
import Derived.Test.YtobcoplfniojkaaDoorText
import Derived.Laws.MakeOwn
import Derived.Lib.Hide
namespace Go.Proofs.YtobcoplfniojkaaDoor
open Go.RowKit Plain

def cyc (xs : List Nat) (k : Nat) : List Nat := (List.range k).map fun i => xs.getD (i % xs.length) 0
theorem cyc_succ (xs : List Nat) (k : Nat) : cyc xs (k + 1) = cyc xs k ++ [xs.getD (k % xs.length) 0] := by
  simp [cyc, List.range_succ]
theorem cyc_length (xs : List Nat) (k : Nat) : (cyc xs k).length = k := by simp [cyc]
theorem runesAt_belowP {w w' : World} {B g a : Nat} {xs : List Nat} (h : RunesAt w (some ⟨g, a, none⟩) xs) (hb : Below B w w') (hg : g < B) : RunesAt w' (some ⟨g, a, none⟩) xs := by
  intro j r hj
  have hadd : (⟨g, a, none⟩ : Addr).add j = ⟨g, a + j, none⟩ := by unfold Addr.add; split <;> simp_all
  have := h j r hj
  rw [hadd] at this ⊢
  rw [hb.cell (p := ⟨g, a + j, none⟩) hg]
  exact this
theorem runesAt_own {w : World} {B : Nat} {ad : Option Addr} {cap : Nat} {xs : List Nat} (h : w.ownsRow B 21 1 (.slice ad xs.length cap) xs.length (rcells xs)) : RunesAt w ad xs ∧ ∀ a, ad = some a → ∃ g, a = ⟨g, 0, none⟩ ∧ g < w.heap.size := by
  rcases h.2 with ⟨hv, h0⟩ | ⟨g, c, cur, hv, _, hg, hnc, hcm, hcs, htk⟩
  · injection hv with h1 h2 h3
    subst h1
    exact ⟨List.eq_nil_of_length_eq_zero h0, fun a h => by cases h⟩
  · injection hv with h1 h2 h3
    subst h1
    refine ⟨fun j r hj => ?_, fun a ha => ⟨g, (Option.some.inj ha).symm, (Array.getElem?_eq_some_iff.1 hg).1⟩⟩
    have hadd : (⟨g, 0, none⟩ : Addr).add j = ⟨g, 0 + j, none⟩ := by unfold Addr.add; split <;> simp_all
    rw [hadd, Lib.cell_of_heap hg]
    have hlt : j < xs.length := (List.getElem?_eq_some_iff.1 hj).1
    have hx : (rcells xs)[0 + j]? = some (.int .i32 (r : Int)) := by simp [rcells, hj]
    rw [← htk, List.getElem?_take] at hx
    rw [if_pos (by omega)] at hx
    rw [← Array.getElem?_toList]
    exact hx

set_option maxHeartbeats 2000000 in
set_option maxRecDepth 100000 in
theorem pad_any (g cap N k : Nat) (xs : List Nat) (w : World) (hx : RunesAt w (some ⟨g, 0, none⟩) xs) (hN : xs.length = N) (hN0 : 0 < N) (hNb : N ≤ 2147483647) (hg : g < w.heap.size) (hk : k ≤ 16384) :
    Calls Tryd.prog 22 #[.slice (some ⟨g, 0, none⟩) N cap, .int .i64 (k : Int)] w fun e w' => e = .returned (.string (textOf (cyc xs k))) ∧ Below w.heap.size w w' := by
  obtain ⟨i0, hi, hz0, hz1, hz2⟩ := info_parts infoRune
  have HN := Lib.hid hN
  clear hN
  go_enter Tryd.func22, Tryd.ntmps22
  go_wp2
  go_loopw [5, 6] (fun v0 iv wr => ∃ (i : Nat) (ad : Option Addr) (cap' : Nat), v0 = .slice ad i cap' ∧ iv = .int .i64 i ∧ i ≤ k ∧ wr.ownsRow w.heap.size 21 1 (.slice ad i cap') i (rcells (cyc xs i)) ∧ Below w.heap.size w wr) (fun _ iv _ => match iv with | .int _ i => k - i.toNat | _ => 0)
  case atStart => exact ⟨0, none, 0, rfl, rfl, Nat.zero_le _, World.ownsRow_nil _ _ _ _, Below.refl _ _⟩
  case round =>
    obtain ⟨i, ad, cap', rfl, rfl, hik, hown, hbw⟩ := hrel
    by_cases hlt : i < k
    · have hz : (i : Int) < (k : Int) := by omega
      obtain ⟨r, hr⟩ : ∃ r, i % N = r := ⟨_, rfl⟩
      have hrN : r < N := by rw [← hr]; exact Nat.mod_lt _ hN0
      have hrem : Int.tmod (i : Int) (N : Int) = (r : Int) := by rw [← hr]; rfl
      obtain ⟨y, hy⟩ : ∃ y, xs[r]? = some y := ⟨xs[r]'(by rw [HN.out]; exact hrN), List.getElem?_eq_getElem _⟩
      have hcell0 := runesAt_belowP hx hbw hg r y hy
      have hcell : wr.cell? ⟨g, r, none⟩ = some (.int .i32 (y : Int)) := by
        have hadd : (⟨g, 0, none⟩ : Addr).add r = ⟨g, 0 + r, none⟩ := by unfold Addr.add; split <;> simp_all
        rw [hadd, Nat.zero_add] at hcell0
        exact hcell0
      clear hcell0
      have hgd : xs.getD (i % xs.length) 0 = y := by rw [HN.out, hr]; simp [List.getD, hy]
      have HY := Lib.hid hgd
      have hle : i + 1 ≤ maxLen := by unfold maxLen; omega
      clear hr hy hgd
      have hsz := hbw.size
      go_wp2_with (at_builtin; refine wpList_append_own _ rfl (.tmp 12) (.tmp 20) 24 rfl w.heap.size 21 i0 (.int .i32 0) 1 4 Tryd.underlying24 hi hz0 hz1 hz2 rfl (by decide) _ _ _ rfl (hown.alloc _) ⟨wr.heap.size, 0, none⟩ 1 1 [.int .i32 (y : Int)] rfl rfl ?c1 ?c2 ?c3 ?c4 ?c5 ?_)
      case c1 => exact cell_one_new _ _ _
      case c2 => intro u hu; simp at hu; subst hu; rfl
      case c3 => exact hle
      case c4 => omega
      case c5 => simp; omega
      intro v' w1 hown3 hgr _
      have hbw3 : Below w.heap.size w w1 := (hbw.alloc hsz _).grown hgr (by simp; omega) (fun k hk => (hown.lt k hk).1)
      go_wp2
      go_roundw
      case rel =>
        obtain ⟨ad2, cap2, rfl⟩ : ∃ ad cap', v' = .slice ad (i + 1) cap' := by
          rcases hown3.2 with ⟨hv, h0⟩ | ⟨g, cap', cur, hv, _⟩
          · omega
          · exact ⟨_, _, hv⟩
        refine ⟨i + 1, ad2, cap2, rfl, by go_num, by omega, ?_, hbw3⟩
        rw [cyc_succ, HY.out]
        simpa [rcells] using hown3
      case measure => show k - ((i : Int) + 1).toNat < k - (i : Int).toNat; omega
    · have hz : ¬ (i : Int) < (k : Int) := by omega
      obtain rfl : i = k := by omega
      have hown' : wr.ownsRow w.heap.size 21 1 (.slice ad (cyc xs i).length cap') (cyc xs i).length (rcells (cyc xs i)) := by rw [cyc_length]; exact hown
      have hr := (runesAt_own hown').1
      have HT := Lib.hid (fun (w1 : World) (h : RunesAt w1 ad (cyc xs i)) => text_any ad cap' (cyc xs i) w1 h)
      rw [cyc_length] at HT
      obtain ⟨Z, hZ⟩ : ∃ Z, textOf (cyc xs i) = Z := ⟨_, rfl⟩
      rw [hZ] at HT
      have HZ := Lib.hid hZ
      clear hZ
      go_wp2_with (go_at_call 18; (with_reducible refine (HT.out _ hr).mono ?_); rintro e w1 ⟨rfl, rfl⟩; dsimp only)
      go_wp2
      go_ret
      exact ⟨ret_str HZ.out.symm, hbw⟩
end Go.Proofs.YtobcoplfniojkaaDoor
