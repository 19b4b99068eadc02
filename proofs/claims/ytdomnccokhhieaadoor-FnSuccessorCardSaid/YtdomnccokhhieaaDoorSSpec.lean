/- The walk of spec.Successor (the reference). -/
import Derived.Test.YtdomnccokhhieaaDoorPFnSuccessorx2
import Derived.Test.YtdomnccokhhieaaDoorTextOf
import Derived.Test.YtdomnccokhhieaaDoorDec
import Derived.Test.YtdomnccokhhieaaDoorSuccLaw
import Derived.Deep.CutBlock
import Derived.Deep.QuietTactic
import Derived.BigQuiet
import Derived.Deep.LoopGhost
set_option linter.unusedVariables false
namespace Go.Proofs.YtdomnccokhhieaaDoor
open Go.RowKit Plain PFnSuccessor Go.Proofs.YtdomnccokhhieaaDoorW.PrintWords

theorem lit121 (a : Act) (h : Fr 121 a) : ∃ f : Nat → Value, (∀ i, Sl a i = f i) ∧ a = ⟨#[f 0, f 1, f 2, f 3, f 4, f 5, f 6, f 7, f 8, f 9, f 10, f 11, f 12, f 13, f 14, f 15, f 16, f 17, f 18, f 19, f 20, f 21, f 22, f 23, f 24, f 25, f 26, f 27, f 28, f 29, f 30, f 31, f 32, f 33, f 34, f 35, f 36, f 37, f 38, f 39, f 40, f 41, f 42, f 43, f 44, f 45, f 46, f 47, f 48, f 49, f 50, f 51, f 52, f 53, f 54, f 55, f 56, f 57, f 58, f 59, f 60, f 61, f 62, f 63, f 64, f 65, f 66, f 67, f 68, f 69, f 70, f 71, f 72, f 73, f 74, f 75, f 76, f 77, f 78, f 79, f 80, f 81, f 82, f 83, f 84, f 85, f 86, f 87, f 88, f 89, f 90, f 91, f 92, f 93, f 94, f 95, f 96, f 97, f 98, f 99, f 100, f 101, f 102, f 103, f 104, f 105, f 106, f 107, f 108, f 109, f 110, f 111, f 112, f 113, f 114, f 115, f 116, f 117, f 118, f 119, f 120], []⟩ := frame_lit 121 a h
/-- the reference's number of a kind -/
def swp (k : Nat) : Nat := if k = 1 then 2 else if k = 2 then 1 else 0
theorem kind_f (r : Nat) : spec_kind.f 1 (r : Int) = some ((swp (kindN r) : Nat) : Int) := by
  by_cases h1 : 48 ≤ r ∧ r ≤ 57
  · have hk : kindN r = 2 := by unfold kindN; rw [if_neg (by omega), if_pos h1]
    rw [hk]
    unfold spec_kind.f
    simp only [spec_kind.j0]
    rw [if_pos (by omega), if_pos (by simp; omega)]
    rfl
  by_cases h2 : 97 ≤ r ∧ r ≤ 122
  · have hk : kindN r = 1 := by unfold kindN; rw [if_pos (by omega)]
    rw [hk]
    unfold spec_kind.f
    simp only [spec_kind.j0]
    rw [if_pos (by omega), if_neg (by simp; omega), if_pos (by omega), if_pos (by omega)]
    rfl
  by_cases h3 : 65 ≤ r ∧ r ≤ 90
  · have hk : kindN r = 1 := by unfold kindN; rw [if_pos (by omega)]
    rw [hk]
    unfold spec_kind.f
    simp only [spec_kind.j0]
    rw [if_pos (by omega), if_neg (by simp; omega), if_neg (by omega), if_pos (by omega), if_pos (by omega)]
    rfl
  · have hk : kindN r = 0 := by unfold kindN; rw [if_neg (by omega), if_neg h1]
    rw [hk]
    unfold spec_kind.f
    simp only [spec_kind.j0]
    have e : (if (r : Int) ≥ 65 then if (r : Int) ≤ 90 then some (2 : Int) else some 0 else some 0) = some 0 := by
      split
      · rw [if_neg (by omega)]
      · rfl
    rw [e]
    have e2 : (if (r : Int) ≥ 97 then if (r : Int) ≤ 122 then some (2 : Int) else some 0 else some 0) = some 0 := by
      split
      · rw [if_neg (by omega)]
      · rfl
    rw [e2]
    split
    · rw [if_neg (by simp; omega)]; rfl
    · rw [if_neg (by decide)]; rfl
theorem swp_inj {a b : Nat} (ha : a ≤ 2) (hb : b ≤ 2) : swp a = swp b ↔ a = b := by
  unfold swp
  split <;> split <;> (try split) <;> (try split) <;> omega
theorem kind2 (r : Nat) : kindN r ≤ 2 := by unfold kindN; split; (· omega); split <;> omega
theorem skind_any (r z : Nat) (w : World) (hz : swp (kindN r) = z) :
    Calls Tryd.prog 33 #[.int .i32 (r : Int)] w fun e w' => e = .returned (.int .i64 (z : Int)) ∧ Below w.heap.size w w' :=
  (spec_kind.calls 1 (r : Int) (z : Int) w (by rw [kind_f, hz])).mono fun e w' ⟨he, hd⟩ => ⟨he, hd.below⟩
theorem bump_any (r : Nat) (hr : r ≤ 1114111) (w : World) :
    Calls Tryd.prog 35 #[.int .i32 (r : Int)] w fun e w' => e = .returned (.tuple #[.int .i32 ((bumpN r).1 : Int), .int .i32 ((bumpN r).2 : Int)]) ∧ Below w.heap.size w w' := by
  refine (spec_bumped.calls (r : Int) ((bumpN r).1 : Int) ((bumpN r).2 : Int) w ?_).mono fun e w' ⟨he, hd⟩ => ⟨he, hd.below⟩
  unfold spec_bumped.f bumpN
  by_cases h1 : r = 57
  · subst h1; rfl
  by_cases h2 : r = 122
  · subst h2; rfl
  by_cases h3 : r = 90
  · subst h3; rfl
  · rw [if_neg (by omega), if_neg (by omega), if_neg (by omega), if_neg h1, if_neg h2, if_neg h3]
    have : wrap32 ((r : Int) + 1) = ((r + 1 : Nat) : Int) := by unfold wrap32; omega
    rw [this]
    rfl
theorem text_len : ∀ (xs : List Nat), (textOf xs).size ≤ 4 * xs.length := by
  intro xs
  rw [Lib.size_eq]
  show ((xs.map fun (n : Nat) => Lib.encodeRune (n : Int)).flatten).length ≤ _
  induction xs with
  | nil => simp
  | cons x xs ih =>
    have := encode_len (x : Int)
    rw [List.map_cons, List.flatten_cons, List.length_append, List.length_cons]
    omega
theorem conv_from {src dst e : TypeId} {P : Program} (hs : P.underlying src = some (.slice e)) (he : P.underlying e = some (.int .i32)) (hd : P.underlying dst = some .string) {R : Nat} {l : List Nat} {w : World} (h : RowR R l w) (o cap : Nat) (ho : o ≤ l.length) :
    (convert src dst (.slice (some ⟨R, o, none⟩) (l.length - o) cap)).run P w = .ok (.string (textOf (l.drop o))) w := by
  have hr := run_convert_runes w src dst e ⟨R, o, none⟩ (l.length - o) cap ((l.drop o).map fun (n : Nat) => (n : Int)) (by simp) hs he hd (fun j hj => by
    have hj' : j < (l.drop o).length := by simpa using hj
    have hjl : o + j < l.length := by rw [List.length_drop] at hj'; omega
    rw [add_at, h.cell (List.getElem?_eq_getElem hjl)]
    have e1 : ((l.drop o).map fun (n : Nat) => (n : Int))[j]? = some ((l[o + j] : Nat) : Int) := by
      rw [List.getElem?_map, List.getElem?_eq_getElem hj', List.getElem_drop]
      rfl
    rw [List.getD, e1]
    rfl)
  rw [hr, List.take_of_length_le (by simp)]
  congr 2
  have := runesBytes_list (l.drop o)
  unfold textOf
  rw [← this]
theorem bump_le {r : Nat} (hr : r ≤ 1114111) : (bumpN r).1 ≤ 1114112 ∧ (bumpN r).2 ≤ 122 := by
  unfold bumpN
  split; (· decide); split; (· decide); split; (· decide)
  exact ⟨by show r + 1 ≤ _; omega, Nat.zero_le _⟩
theorem bsp_fuel : ∀ (f g : Nat) (a : List Nat) (m : Nat), m < f → m < g → bsp f a m = bsp g a m := by
  intro f
  induction f with
  | zero => intro g a m h1; omega
  | succ f ihf =>
    intro g a m h1 h2
    obtain ⟨g', rfl⟩ : ∃ g', g = g' + 1 := ⟨g - 1, by omega⟩
    rw [bsp, bsp]
    split
    · rfl
    · split
      · rfl
      · rename_i q hq
        have := (pal_lt hq).1
        split
        · rfl
        · exact ihf g' _ q (by omega) (by omega)
def SAns (s : ByteArray) (e : Ending) : Prop := ∃ X z, e = .returned (.tuple #[.string X, .int .i64 z]) ∧ (z = 1 → X = textOf (succR (rnsOf s.data.toList)))
theorem pal_step (a : List Nat) (j : Nat) : pal a (j + 1) = if kindN (a.getD j 0) ≠ 0 then some j else pal a j := rfl
theorem swp_pos {k : Nat} (h : k ≠ 0) (h2 : k ≤ 2) : swp k = 1 ∨ swp k = 2 := by unfold swp; split; (· simp); split <;> omega
theorem valid_f (c : Int) : ∃ b, utf8_ValidRune.f 1 c = some b := by
  unfold utf8_ValidRune.f
  simp only [utf8_ValidRune.j0]
  repeat' split
  all_goals exact ⟨_, rfl⟩

set_option maxHeartbeats 8000000 in
set_option maxRecDepth 100000 in
theorem sspec_any (s : ByteArray) (w : World) (hs : s.size ≤ 2147483647) (V : Bool)
    (hset : Hid (Calls Tryd.prog 32 #[.slice (some ⟨w.heap.size, 0, none⟩) 1 1] (w.alloc (.cells #[.string s] 9)) fun e w' => e = .returned (.bool V) ∧ Below (w.alloc (.cells #[.string s] 9)).heap.size (w.alloc (.cells #[.string s] 9)) w')) :
    Calls Tryd.prog 12 #[.string s] w fun e w' => SAns s e ∧ Below w.heap.size w w' := by
  cases V with
  | false =>
    go_enter Tryd.func12, Tryd.ntmps12
    go_wp2_with (go_at_call 32; (with_reducible refine hset.out.mono ?_); rintro e w1 ⟨rfl, hb1⟩; dsimp only)
    go_wp2
    go_ret2
    exact ⟨⟨_, _, rfl, fun h => by cases h⟩, bthen ((Below.refl _ w).alloc (Nat.le_refl _) _) hb1⟩
  | true =>
  by_cases hse : s.toList = []
  · go_enter Tryd.func12, Tryd.ntmps12
    go_wp2_with (go_at_call 32; (with_reducible refine hset.out.mono ?_); rintro e w1 ⟨rfl, hb1⟩; dsimp only)
    go_wp2
    go_ret2
    exact ⟨⟨_, _, rfl, fun h => by cases h⟩, bthen ((Below.refl _ w).alloc (Nat.le_refl _) _) hb1⟩
  have hse2 : s.toList.isEmpty = false := by cases h : s.toList with | nil => exact absurd h hse | cons a l => rfl
  obtain ⟨L, hL⟩ : ∃ L, rnsOf s.data.toList = L := ⟨_, rfl⟩
  have hLle := rnsOf_length s.data.toList
  have hLr := rnsOf_le s.data.toList
  have hL1 : 1 ≤ L.length := by
    have : s.data.toList ≠ [] := by rw [← Lib.toList_data]; exact hse
    rw [← hL]
    unfold rnsOf
    rw [segs_step _ this]
    simp
  have hA : Conv.runesFrom s s.size 0 #[] = (L.map rcell).toArray := by
    rw [convRunes s s.size 0 #[] (by omega)]
    simp [hL]
  have HCV := Lib.hid (fun w1 => by
    have hcv := run_runes_of_string (P := Tryd.prog) w1 9 39 21 s Tryd.underlying9 Tryd.underlying39 Tryd.underlying21 (by have := size_runesFrom s s.size 0 #[]; simp at this; omega)
    rw [hA, show ((L.map rcell).toArray).size = L.length by simp] at hcv
    exact hcv)
  have HSA := Lib.hid (show ∀ X z e, e = Ending.returned (.tuple #[.string X, .int .i64 z]) → (z = 1 → X = textOf (succR L)) → SAns s e by
    rw [← hL]
    exact fun X z e h1 h2 => ⟨X, z, h1, h2⟩)
  rw [hL] at hLle hLr
  rw [← Lib.size_eq] at hLle
  obtain ⟨n, hn⟩ : ∃ n, L.length = n := ⟨_, rfl⟩
  rw [hn] at hLle hL1
  have HN := Lib.hid hn
  have HLR := Lib.hid hLr
  clear hLr hA hL
  go_enter Tryd.func12, Tryd.ntmps12
  go_wp2_with (go_at_call 32; (with_reducible refine hset.out.mono ?_))
  rintro e w1 ⟨rfl, hb1⟩
  dsimp only
  have hB1 : Below w.heap.size w w1 := bthen ((Below.refl _ w).alloc (Nat.le_refl _) _) hb1
  have hcv := HCV.out w1
  clear HCV hb1
  have hcap := grownCap_ge w1 L.length 0 21
  have hrow : RowR w1.heap.size L (w1.drew.alloc (.cells ((L.map rcell).toArray ++ Array.replicate (grownCap w1 L.length 0 21 - L.length) (.int .i32 0)) 21)) := ⟨_, heap_alloc_new w1.drew _⟩
  have hbw0 : Below w.heap.size w (w1.drew.alloc (.cells ((L.map rcell).toArray ++ Array.replicate (grownCap w1 L.length 0 21 - L.length) (.int .i32 0)) 21)) := bthen hB1 (((Below.refl _ w1).drew).alloc (Nat.le_refl _) _)
  generalize w1.drew.alloc (.cells ((L.map rcell).toArray ++ Array.replicate (grownCap w1 L.length 0 21 - L.length) (.int .i32 0)) 21) = W1 at hcv hrow hbw0
  generalize grownCap w1 L.length 0 21 = CAP at hcv hcap
  have hRR := hB1.size
  obtain ⟨R, hR⟩ : ∃ R, w1.heap.size = R := ⟨_, rfl⟩
  rw [hR] at hcv hrow hRR
  rw [hn] at hcv hcap
  clear hR hn hB1 hset
  go_upto_block 0 with fail
  clear hcv
  refine wp_cut (fun a0 wx => ∃ av : Int, ((av = -1 ∧ pal L n = none) ∨ ∃ j : Nat, av = (j : Int) ∧ pal L n = some j) ∧ RowR R L wx ∧ Below w.heap.size w wx ∧ Fr 121 a0 ∧ Sl a0 0 = .string s ∧ Sl a0 4 = .slice (some ⟨R, 0, none⟩) n CAP ∧ Sl a0 5 = .int .i64 av) ?restB ?firstB
  case firstB =>
    intro JB KB hJB hKB
    go_wp2_with fail
    refine wp_loop_ghost_k (fun i a0 wr => i ≤ n ∧ pal L n = pal L i ∧ RowR R L wr ∧ Below w.heap.size w wr ∧ Fr 121 a0 ∧ Sl a0 0 = .string s ∧ Sl a0 4 = .slice (some ⟨R, 0, none⟩) n CAP ∧ Sl a0 5 = .int .i64 ((i : Int) - 1)) n ?atStart ?round
    case atStart => exact ⟨Nat.le_refl _, rfl, hrow, hbw0, ⟨rfl, rfl⟩, rfl, rfl, rfl⟩
    case round =>
    intro i a0 wr hinv J K hJ hK
    obtain ⟨hin, hpal, hrw, hbw, hFr, hS0, hS4, hS5⟩ := hinv
    have HP := Lib.hid hpal
    clear hpal hrow hbw0
    by_cases hi0 : i = 0
    · subst hi0
      obtain ⟨f, hf, hA⟩ := lit121 a0 hFr
      rw [hf] at hS0 hS4 hS5
      rw [hS0, hS4, hS5] at hA
      clear hf hFr hS0 hS4 hS5
      subst hA
      have hm1 : ((0 : Nat) : Int) - 1 = -1 := by omega
      rw [hm1]
      clear hm1
      go_wp2_with fail
      refine Met.intro ?_
      go_step
      exact ⟨-1, .inl ⟨rfl, HP.out⟩, hrw, hbw, ⟨rfl, rfl⟩, rfl, rfl, rfl⟩
    obtain ⟨j, hj⟩ : ∃ j, i = j + 1 := ⟨i - 1, by omega⟩
    subst hj
    clear hi0
    have hm1 : ((j + 1 : Nat) : Int) - 1 = (j : Int) := by omega
    rw [hm1] at hS5
    clear hm1
    obtain ⟨f, hf, hA⟩ := lit121 a0 hFr
    rw [hf] at hS0 hS4 hS5
    rw [hS0, hS4, hS5] at hA
    clear hf hFr hS0 hS4 hS5
    subst hA
    have hjl : j < L.length := by rw [HN.out]; omega
    obtain ⟨r, hr⟩ : ∃ r, L[j]? = some r := ⟨_, List.getElem?_eq_getElem hjl⟩
    have hcell := hrw.cell hr
    have hr1 : r ≤ 1114111 := HLR.out r (List.mem_of_getElem? hr)
    have hr0 : (0 : Int) ≤ (r : Int) := by omega
    have hjz : (0 : Int) ≤ (j : Int) := by omega
    have hjn : (j : Int) < (n : Int) := by omega
    have HGD := Lib.hid (show L.getD j 0 = r by rw [List.getD, hr]; rfl)
    clear hr hjl
    by_cases hk0 : kindN r = 0
    · have HK := Lib.hid (fun w => skind_any r 0 w (by rw [hk0]; rfl))
      have HK0 := Lib.hid hk0
      clear hk0
      go_wp2_with (go_at_call 33; (with_reducible refine (HK.out _).mono ?_); rintro e w9 ⟨rfl, hb9⟩; dsimp only)
      refine Handed.intro j (by omega) ?_
      go_step
      exact ⟨by omega, (by rw [HP.out, pal_step, HGD.out, if_neg (by rw [HK0.out]; decide)]), hrw.keep (hb9.block R hrw.lt), bthen hbw hb9, ⟨rfl, rfl⟩, rfl, rfl, rfl⟩
    · have hz : swp (kindN r) = 1 ∨ swp (kindN r) = 2 := swp_pos hk0 (kind2 r)
      have HK0 := Lib.hid hk0
      clear hk0
      rcases hz with hz | hz
      all_goals
        have HK := Lib.hid (fun w => skind_any r _ w hz)
        clear hz
        go_wp2_with (go_at_call 33; (with_reducible refine (HK.out _).mono ?_); rintro e w9 ⟨rfl, hb9⟩; dsimp only)
        refine Met.intro ?_
        go_step
        exact ⟨(j : Int), .inr ⟨j, rfl, (by rw [HP.out, pal_step, HGD.out, if_pos HK0.out])⟩, hrw.keep (hb9.block R hrw.lt), bthen hbw hb9, ⟨rfl, rfl⟩, rfl, rfl, rfl⟩
  case restB =>
  intro a0 wx hcut
  obtain ⟨av, hav, hrw, hbw, hFr, hS0, hS4, hS5⟩ := hcut
  clear hrow hbw0
  obtain ⟨f, hf, hA⟩ := lit121 a0 hFr
  rw [hf] at hS0 hS4 hS5
  rw [hS0, hS4, hS5] at hA
  clear hf hFr hS0 hS4 hS5
  subst hA
  rcases hav with ⟨rfl, hp⟩ | ⟨j, rfl, hp⟩
  · have HFIN := Lib.hid (show succR L = L.set (n - 1) (L.getD (n - 1) 0 + 1) by rw [succ_spec, HN.out, hp])
    clear hp
    obtain ⟨x, hx⟩ : ∃ x, L[n - 1]? = some x := ⟨_, List.getElem?_eq_getElem (by rw [HN.out]; omega)⟩
    have hcell := hrw.cell hx
    have hx1 : x ≤ 1114111 := HLR.out x (List.mem_of_getElem? hx)
    have hx0 : (0 : Int) ≤ (x : Int) := by omega
    have hn0 : (0 : Int) ≤ (n : Int) - 1 := by omega
    have HX := Lib.hid (show L.getD (n - 1) 0 = x by rw [List.getD, hx]; rfl)
    have HX2 := Lib.hid hx
    clear hx
    obtain ⟨vb, hvb⟩ := valid_f ((x : Int) + 1)
    have HV := Lib.hid (fun w => (utf8_ValidRune.calls 1 ((x : Int) + 1) vb w hvb).mono (R' := fun e w' => e = .returned (.bool vb) ∧ Below w.heap.size w w') fun e w' ⟨he, hd⟩ => ⟨he, hd.below⟩)
    clear hvb
    go_wp2_with (go_at_call 34; (with_reducible refine (HV.out _).mono ?_))
    rintro e w9 ⟨rfl, hb9⟩
    dsimp only
    have hrw9 := hrw.keep (hb9.block R hrw.lt)
    have hbw9 := bthen hbw hb9
    clear hrw hbw hb9 hcell
    cases vb with
    | false =>
      go_wp2
      go_ret2
      exact ⟨HSA.out _ _ _ rfl (fun h => by cases h), hbw9⟩
    | true =>
      have hfz := hrw9.frozen (n - 1)
      have hcell9 := hrw9.cell HX2.out
      have hst := hrw9.store (k := n - 1) (v := x + 1) (by rw [HN.out]; omega)
      rw [show ((x + 1 : Nat) : Int) = (x : Int) + 1 by omega] at hst
      have hcv := conv_text Tryd.underlying39 Tryd.underlying21 Tryd.underlying9 hst n CAP (by rw [List.length_set, HN.out]; exact Nat.le_refl _)
      rw [List.take_of_length_le (by rw [List.length_set, HN.out]; exact Nat.le_refl _)] at hcv
      have HB := Lib.hid (hbw9.setCell (p := ⟨R, n - 1, none⟩) hRR (.int .i32 ((x : Int) + 1)))
      clear hst hrw9 hbw9
      go_wp2
      go_ret2
      exact ⟨HSA.out _ _ _ rfl (fun _ => by rw [HFIN.out, HX.out]), HB.out⟩
  · have HFIN := Lib.hid (show bsp (j + 1) L j = succR L by rw [succ_spec, HN.out, hp])
    obtain ⟨hjn, hjk⟩ := pal_lt hp
    clear hp
    have hj0 : ¬ (j : Int) < 0 := by omega
    go_wp2_with fail
    refine wp_loop_ghost_k (fun g a0 wr => ∃ (a : List Nat) (m : Nat), g = m + 1 ∧ RowR R a wr ∧ Below w.heap.size w wr ∧ a.length = n ∧ (∀ r ∈ a, r ≤ 1114111) ∧ m < n ∧ kindN (a.getD m 0) ≠ 0 ∧ bsp (m + 1) a m = succR L ∧ Fr 121 a0 ∧ Sl a0 0 = .string s ∧ Sl a0 4 = .slice (some ⟨R, 0, none⟩) n CAP ∧ Sl a0 5 = .int .i64 (m : Int)) (j + 1) ?atStart2 ?round2
    case atStart2 => exact ⟨L, j, rfl, hrw, hbw, HN.out, HLR.out, by omega, hjk, HFIN.out, ⟨rfl, rfl⟩, rfl, rfl, rfl⟩
    case round2 =>
    intro g a0 wr hinv J K hJ hK
    clear hrw hbw
    obtain ⟨a, m, rfl, hrw, hbw, hlen, hall, hmn, hkm, hfin, hFr, hS0, hS4, hS5⟩ := hinv
    obtain ⟨f, hf, hA⟩ := lit121 a0 hFr
    rw [hf] at hS0 hS4 hS5
    rw [hS0, hS4, hS5] at hA
    clear hf hFr hS0 hS4 hS5
    subst hA
    obtain ⟨r, hr⟩ : ∃ r, a[m]? = some r := ⟨_, List.getElem?_eq_getElem (by omega)⟩
    have hcell := hrw.cell hr
    have hr1 : r ≤ 1114111 := hall r (List.mem_of_getElem? hr)
    have hr0 : (0 : Int) ≤ (r : Int) := by omega
    have hmz : (0 : Int) ≤ (m : Int) := by omega
    have hmz2 : (m : Int) < (n : Int) := by omega
    have hgd : a.getD m 0 = r := by rw [List.getD, hr]; rfl
    rw [hgd] at hkm
    have hr122 : r ≤ 122 := by
      have := kind1 hkm
      unfold incR at this
      omega
    obtain ⟨z, hz⟩ : ∃ z, swp (kindN r) = z := ⟨_, rfl⟩
    obtain ⟨b1, b2, hb⟩ : ∃ b1 b2, bumpN r = (b1, b2) := ⟨_, _, rfl⟩
    have hb1 : b1 ≤ 123 ∧ b2 ≤ 122 := by
      have h1 : b1 = (bumpN r).1 := by rw [hb]
      have h2 : b2 = (bumpN r).2 := by rw [hb]
      rw [h1, h2]
      unfold bumpN
      split; (· decide); split; (· decide); split; (· decide)
      exact ⟨by show r + 1 ≤ 123; omega, Nat.zero_le _⟩
    have HK := Lib.hid (fun w => skind_any r z w hz)
    have HU := Lib.hid (fun w => by have := bump_any r hr1 w; rw [hb] at this; exact this)
    have HZ := Lib.hid hz
    have HB := Lib.hid hb
    have HGD := Lib.hid hgd
    have HR := Lib.hid hr
    have HALL := Lib.hid hall
    have HFIN2 := Lib.hid hfin
    have HKM := Lib.hid hkm
    have HLEN := Lib.hid hlen
    clear hz hb hgd hr hall hfin hkm
    go_wp2_with (go_at_call 33; (with_reducible refine (HK.out _).mono ?_))
    rintro e w7 rfl hb7
    dsimp only
    have hrw7 := hrw.keep (hb7.block R hrw.lt)
    have hcell7 := hrw7.cell HR.out
    have hbw7 := bthen hbw hb7
    clear hcell hrw hbw hb7
    go_wp2_with (go_at_call 35; (with_reducible refine (HU.out _).mono ?_))
    rintro e w8 ⟨rfl, hb8⟩
    dsimp only
    have hrw8 := hrw7.keep (hb8.block R hrw7.lt)
    have hcell8 := hrw8.cell HR.out
    have hfz8 := hrw8.frozen m
    have hbw8 := bthen hbw7 hb8
    clear hcell7 hrw7 hbw7 hb8
    have hrw9 := hrw8.store (k := m) (v := b1) (by omega)
    have hbw9 := hbw8.setCell (p := ⟨R, m, none⟩) hRR (.int .i32 (b1 : Int))
    have HALL9 := Lib.hid (show ∀ r ∈ a.set m b1, r ≤ 1114111 from fun r hr => by
      rcases List.mem_or_eq_of_mem_set hr with h1 | rfl
      · exact HALL.out r h1
      · omega)
    have hlen9 : (a.set m b1).length = n := by rw [List.length_set]; exact hlen
    clear hrw8 hbw8
    have HRW9 := Lib.hid hrw9
    have HBW9 := Lib.hid hbw9
    clear hbw9
    by_cases hc0 : b2 = 0
    · subst hc0
      have hcv := conv_text Tryd.underlying39 Tryd.underlying21 Tryd.underlying9 hrw9 n CAP (by omega)
      rw [List.take_of_length_le (by omega)] at hcv
      have HLEN9 := Lib.hid hlen9
      clear hrw9 hlen hlen9
      go_wp2
      go_ret2
      refine ⟨HSA.out _ _ _ rfl (fun _ => ?_), HBW9.out⟩
      have h1 := HFIN2.out
      rw [bsp, HGD.out, HB.out, if_pos rfl] at h1
      rw [← h1]
    · have hcz : ((b2 : Int) == 0) = false := by rw [beq_eq_false_iff_ne]; omega
      have HC0 := Lib.hid hc0
      have HLEN9 := Lib.hid hlen9
      clear hc0 hrw9 hlen hlen9
      obtain ⟨A, hA⟩ : ∃ A, a.set m b1 = A := ⟨_, rfl⟩
      rw [hA] at HRW9 HALL9 HLEN9
      have HA := Lib.hid hA
      clear hA
      obtain ⟨W9, hW9⟩ : ∃ W9, w8.setCell ⟨R, m, none⟩ (.int .i32 (b1 : Int)) = W9 := ⟨_, rfl⟩
      rw [hW9] at HRW9 HBW9
      go_upto_block 4 with fail
      try rw [hW9]
      clear hW9 hcell8 hfz8
      refine wp_cut (fun a0 wx => ∃ nx : Int, ((nx = -1 ∧ pal A m = none) ∨ ∃ q : Nat, nx = (q : Int) ∧ pal A m = some q) ∧ RowR R A wx ∧ Below w.heap.size w wx ∧ Fr 121 a0 ∧ Sl a0 0 = .string s ∧ Sl a0 4 = .slice (some ⟨R, 0, none⟩) n CAP ∧ Sl a0 5 = .int .i64 (m : Int) ∧ Sl a0 7 = .int .i64 (z : Int) ∧ Sl a0 9 = .int .i32 (b2 : Int) ∧ Sl a0 10 = .int .i64 nx) ?restD ?firstD
      case firstD =>
        intro JD KD hJD hKD
        go_wp2_with fail
        refine wp_loop_ghost_k (fun i a0 wr => i ≤ m ∧ pal A m = pal A i ∧ RowR R A wr ∧ Below w.heap.size w wr ∧ Fr 121 a0 ∧ Sl a0 0 = .string s ∧ Sl a0 4 = .slice (some ⟨R, 0, none⟩) n CAP ∧ Sl a0 5 = .int .i64 (m : Int) ∧ Sl a0 7 = .int .i64 (z : Int) ∧ Sl a0 9 = .int .i32 (b2 : Int) ∧ Sl a0 10 = .int .i64 ((i : Int) - 1)) m ?atStart3 ?round3
        case atStart3 => exact ⟨Nat.le_refl _, rfl, HRW9.out, HBW9.out, ⟨rfl, rfl⟩, rfl, rfl, rfl, rfl, rfl, rfl⟩
        case round3 =>
        intro i a0 wr hinv J3 K3 hJ3 hK3
        obtain ⟨him, hpal, hrw, hbw, hFr, hS0, hS4, hS5, hS7, hS9, hS10⟩ := hinv
        have HP := Lib.hid hpal
        clear hpal
        by_cases hi0 : i = 0
        · subst hi0
          obtain ⟨f, hf, hA⟩ := lit121 a0 hFr
          rw [hf] at hS0 hS4 hS5 hS7 hS9 hS10
          rw [hS0, hS4, hS5, hS7, hS9, hS10] at hA
          clear hf hFr hS0 hS4 hS5 hS7 hS9 hS10
          subst hA
          have hm1 : ((0 : Nat) : Int) - 1 = -1 := by omega
          rw [hm1]
          clear hm1
          go_wp2_with fail
          refine Met.intro ?_
          go_step
          exact ⟨-1, .inl ⟨rfl, HP.out⟩, hrw, hbw, ⟨rfl, rfl⟩, rfl, rfl, rfl, rfl, rfl, rfl⟩
        obtain ⟨q, hq⟩ : ∃ q, i = q + 1 := ⟨i - 1, by omega⟩
        subst hq
        clear hi0
        have hm1 : ((q + 1 : Nat) : Int) - 1 = (q : Int) := by omega
        rw [hm1] at hS10
        clear hm1
        obtain ⟨f, hf, hA⟩ := lit121 a0 hFr
        rw [hf] at hS0 hS4 hS5 hS7 hS9 hS10
        rw [hS0, hS4, hS5, hS7, hS9, hS10] at hA
        clear hf hFr hS0 hS4 hS5 hS7 hS9 hS10
        subst hA
        obtain ⟨y, hy⟩ : ∃ y, A[q]? = some y := ⟨_, List.getElem?_eq_getElem (by rw [HLEN9.out]; omega)⟩
        have hcelly := hrw.cell hy
        have hy0 : (0 : Int) ≤ (y : Int) := by omega
        have hqz : (0 : Int) ≤ (q : Int) := by omega
        have hqn : (q : Int) < (n : Int) := by omega
        have HGY := Lib.hid (show A.getD q 0 = y by rw [List.getD, hy]; rfl)
        clear hy
        by_cases hk0 : kindN y = 0
        · have HKy := Lib.hid (fun w => skind_any y 0 w (by rw [hk0]; rfl))
          have HK0 := Lib.hid hk0
          clear hk0
          go_wp2_with (go_at_call 33; (with_reducible refine (HKy.out _).mono ?_); rintro e w9 ⟨rfl, hb9⟩; dsimp only)
          refine Handed.intro q (by omega) ?_
          go_step
          exact ⟨by omega, (by rw [HP.out, pal_step, HGY.out, if_neg (by rw [HK0.out]; decide)]), hrw.keep (hb9.block R hrw.lt), bthen hbw hb9, ⟨rfl, rfl⟩, rfl, rfl, rfl, rfl, rfl, rfl⟩
        · have hz2 : swp (kindN y) = 1 ∨ swp (kindN y) = 2 := swp_pos hk0 (kind2 y)
          have HK0 := Lib.hid hk0
          clear hk0
          rcases hz2 with hz2 | hz2
          all_goals
            have HKy := Lib.hid (fun w => skind_any y _ w hz2)
            clear hz2
            go_wp2_with (go_at_call 33; (with_reducible refine (HKy.out _).mono ?_); rintro e w9 ⟨rfl, hb9⟩; dsimp only)
            refine Met.intro ?_
            go_step
            exact ⟨(q : Int), .inr ⟨q, rfl, (by rw [HP.out, pal_step, HGY.out, if_pos HK0.out])⟩, hrw.keep (hb9.block R hrw.lt), bthen hbw hb9, ⟨rfl, rfl⟩, rfl, rfl, rfl, rfl, rfl, rfl⟩
      case restD =>
      intro a0 wx hcut
      obtain ⟨nx, hnx, hrw, hbw, hFr, hS0, hS4, hS5, hS7, hS9, hS10⟩ := hcut
      obtain ⟨f, hf, hA⟩ := lit121 a0 hFr
      rw [hf] at hS0 hS4 hS5 hS7 hS9 hS10
      rw [hS0, hS4, hS5, hS7, hS9, hS10] at hA
      clear hf hFr hS0 hS4 hS5 hS7 hS9 hS10
      subst hA
      have HBS := Lib.hid (show (match pal A m with | none => insC A m b2 | some q => if q + 1 < m ∧ kindN (A.getD q 0) ≠ kindN r then insC A m b2 else bsp m A q) = succR L by
        have h1 := HFIN2.out
        rw [bsp, HGD.out, HB.out, if_neg HC0.out, HA.out] at h1
        exact h1)
      have hAl : A.length = n := HLEN9.out
      have hrk : ∀ k, RowR R A (wx.drewN k) := fun k => hrw.keep (by simp)
      have hcv1 := fun k => conv_text Tryd.underlying39 Tryd.underlying21 Tryd.underlying9 (hrk k) m CAP (by omega)
      have hcv2 := fun k => conv_from Tryd.underlying39 Tryd.underlying21 Tryd.underlying9 (hrk k) m (CAP - m) (by omega)
      simp only [hAl] at hcv2
      have HRK := Lib.hid hrk
      clear hrk
      have t1 := text_len (A.take m)
      have t2 := encode_size_le (b2 : Int)
      have t3 := text_len (A.drop m)
      rw [List.length_take] at t1
      rw [List.length_drop] at t3
      have hz1 : (textOf (A.take m)).size + (Utf8.encode (b2 : Int)).size ≤ 9223372036854775807 := by omega
      have hz2 : (textOf (A.take m) ++ Utf8.encode (b2 : Int)).size + (textOf (A.drop m)).size ≤ 9223372036854775807 := by rw [ByteArray.size_append]; omega
      have hz3 : ((textOf (A.take m)).size : Int) + ((Utf8.encode (b2 : Int)).size : Int) ≤ 9223372036854775807 := by omega
      have hz4 : ((textOf (A.take m)).size : Int) + ((Utf8.encode (b2 : Int)).size : Int) + ((textOf (A.drop m)).size : Int) ≤ 9223372036854775807 := by omega
      have HZ1 := Lib.hid hz1
      have HZ2 := Lib.hid hz2
      have HZ3 := Lib.hid hz3
      have HZ4 := Lib.hid hz4
      clear hAl t1 t2 t3 hz1 hz2 hz3 hz4
      have hmc : (m : Int) ≤ (CAP : Int) := by omega
      have hnc : (n : Int) ≤ (CAP : Int) := by omega
      have hmn2 : (m : Int) ≤ (n : Int) := by omega
      have hmc2 : ¬ CAP = m := by omega
      have HINS := Lib.hid (show ∀ X, X = textOf (A.take m) ++ Utf8.encode (b2 : Int) ++ textOf (A.drop m) → insC A m b2 = succR L → X = textOf (succR L) from fun X h1 h2 => by
        rw [h1, ← h2]
        apply ByteArray.ext
        apply Array.toList_inj.1
        have e := encode_list (b2 : Int)
        simp only [ByteArray.data_append, Array.toList_append, e]
        unfold insC textOf
        simp)
      rcases hnx with ⟨rfl, hp⟩ | ⟨q, rfl, hp⟩
      · have HI := Lib.hid (show insC A m b2 = succR L by have := HBS.out; rw [hp] at this; exact this)
        clear hp
        go_upto_region 22 with fail
        have hz1 := HZ1.out
        have hz2 := HZ2.out
        have hz3 := HZ3.out
        have hz4 := HZ4.out
        go_quiet (fail)
        go_wp2
        go_ret2
        exact ⟨HSA.out _ _ _ rfl (fun _ => HINS.out _ rfl HI.out), bthen hbw (Drawn0.mk ⟨_, rfl⟩).below⟩
      · obtain ⟨hqm, hqk⟩ := pal_lt hp
        have HBQ := Lib.hid (show (if q + 1 < m ∧ kindN (A.getD q 0) ≠ kindN r then insC A m b2 else bsp m A q) = succR L by have := HBS.out; rw [hp] at this; exact this)
        have hq0 : ¬ (q : Int) < 0 := by omega
        have hq1 : (0 : Int) ≤ (q : Int) := by omega
        have hqn : (q : Int) < (n : Int) := by omega
        obtain ⟨y, hy⟩ : ∃ y, A[q]? = some y := ⟨_, List.getElem?_eq_getElem (by rw [HLEN9.out]; omega)⟩
        have HGY := Lib.hid (show A.getD q 0 = y by rw [List.getD, hy]; rfl)
        have HY := Lib.hid hy
        have HQK := Lib.hid hqk
        have HCG := Lib.hid (fun (W : World) (h : RowR R A W) (k : Nat) => conv_text Tryd.underlying39 Tryd.underlying21 Tryd.underlying9 (show RowR R A (W.drewN k) from h.keep (by simp)) m CAP (by rw [HLEN9.out]; omega))
        have HCF := Lib.hid (fun (W : World) (h : RowR R A W) (k : Nat) => by
          have := conv_from Tryd.underlying39 Tryd.underlying21 Tryd.underlying9 (show RowR R A (W.drewN k) from h.keep (by simp)) m (CAP - m) (by rw [HLEN9.out]; omega)
          rw [HLEN9.out] at this
          exact this)
        clear hp hy hqk hcv1 hcv2
        have hend : ¬ (q + 1 < m ∧ kindN (A.getD q 0) ≠ kindN r) → bsp (q + 1) A q = succR L := fun h => by
          have := HBQ.out
          rw [if_neg h] at this
          rw [← this]
          exact bsp_fuel _ _ _ _ (by omega) hqm
        have HEND := Lib.hid hend
        clear hend
        by_cases h1 : q + 1 < m
        · have h1z : (q : Int) < (m : Int) - 1 := by omega
          have hcelly := hrw.cell HY.out
          obtain ⟨zy, hzy⟩ : ∃ zy, swp (kindN y) = zy := ⟨_, rfl⟩
          have HKy := Lib.hid (fun w => skind_any y zy w hzy)
          have HZY := Lib.hid hzy
          clear hzy
          by_cases hkk : kindN y = kindN r
          · obtain rfl : zy = z := by rw [← HZY.out, ← HZ.out, hkk]
            have HKK := Lib.hid hkk
            clear hkk
            go_wp2_with (go_at_call 33; (with_reducible refine (HKy.out _).mono ?_); rintro e w11 ⟨rfl, hb11⟩; dsimp only)
            refine Handed.intro (q + 1) (by omega) ?_
            go_step
            exact ⟨A, q, rfl, hrw.keep (hb11.block R hrw.lt), bthen hbw hb11, HLEN9.out, HALL9.out, by omega, HQK.out, HEND.out (fun h => h.2 (by rw [HGY.out]; exact HKK.out)), ⟨rfl, rfl⟩, rfl, rfl, rfl⟩
          · have hne : ((zy : Int) == (z : Int)) = false := by
              rw [beq_eq_false_iff_ne]
              intro e
              have e2 : zy = z := by omega
              rw [← HZY.out, ← HZ.out] at e2
              exact hkk ((swp_inj (kind2 y) (kind2 r)).1 e2)
            have HI := Lib.hid (show insC A m b2 = succR L by have := HBQ.out; rw [if_pos ⟨h1, by rw [HGY.out]; exact hkk⟩] at this; exact this)
            clear hkk
            have hne2 : ((zy : Int) != (z : Int)) = true := by rw [bne, hne]; rfl
            clear hne
            go_wp2_with (go_at_call 33; (with_reducible refine (HKy.out _).mono ?_))
            rintro e w11 rfl hb11
            dsimp only
            go_upto_region 22 with fail
            have hrw11 := hrw.keep (hb11.block R hrw.lt)
            have hbw11 := bthen hbw hb11
            have hcv1 := HCG.out _ hrw11
            have hcv2 := HCF.out _ hrw11
            clear hrw hbw hb11 hcelly hne2 h1z h1 hqm hq0 hq1 hqn
            have hz1 := HZ1.out
            have hz2 := HZ2.out
            have hz3 := HZ3.out
            have hz4 := HZ4.out
            go_quiet (fail)
            go_wp2
            go_ret2
            exact ⟨HSA.out _ _ _ rfl (fun _ => HINS.out _ rfl HI.out), bthen hbw11 (Drawn0.mk ⟨_, rfl⟩).below⟩
        · have h1z : ¬ (q : Int) < (m : Int) - 1 := by omega
          go_wp2_with fail
          refine Handed.intro (q + 1) (by omega) ?_
          go_step
          exact ⟨A, q, rfl, hrw, hbw, HLEN9.out, HALL9.out, by omega, HQK.out, HEND.out (fun h => h1 h.1), ⟨rfl, rfl⟩, rfl, rfl, rfl⟩
end Go.Proofs.YtdomnccokhhieaaDoor
