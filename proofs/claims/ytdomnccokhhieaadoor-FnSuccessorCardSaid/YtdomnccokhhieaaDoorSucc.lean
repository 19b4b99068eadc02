/- The walk of xstrings.Successor. -/
import Derived.Test.YtdomnccokhhieaaDoorBuildRune
import Derived.Test.YtdomnccokhhieaaDoorTextOf
import Derived.Test.YtdomnccokhhieaaDoorSuccLaw
import Derived.Deep.CutBlock
import Derived.Deep.LoopGhost
set_option linter.unusedVariables false
namespace Go.Proofs.YtdomnccokhhieaaDoor
open Go.RowKit Plain

theorem lit138 (a : Act) (h : Fr 138 a) : ∃ f : Nat → Value, (∀ i, Sl a i = f i) ∧ a = ⟨#[f 0, f 1, f 2, f 3, f 4, f 5, f 6, f 7, f 8, f 9, f 10, f 11, f 12, f 13, f 14, f 15, f 16, f 17, f 18, f 19, f 20, f 21, f 22, f 23, f 24, f 25, f 26, f 27, f 28, f 29, f 30, f 31, f 32, f 33, f 34, f 35, f 36, f 37, f 38, f 39, f 40, f 41, f 42, f 43, f 44, f 45, f 46, f 47, f 48, f 49, f 50, f 51, f 52, f 53, f 54, f 55, f 56, f 57, f 58, f 59, f 60, f 61, f 62, f 63, f 64, f 65, f 66, f 67, f 68, f 69, f 70, f 71, f 72, f 73, f 74, f 75, f 76, f 77, f 78, f 79, f 80, f 81, f 82, f 83, f 84, f 85, f 86, f 87, f 88, f 89, f 90, f 91, f 92, f 93, f 94, f 95, f 96, f 97, f 98, f 99, f 100, f 101, f 102, f 103, f 104, f 105, f 106, f 107, f 108, f 109, f 110, f 111, f 112, f 113, f 114, f 115, f 116, f 117, f 118, f 119, f 120, f 121, f 122, f 123, f 124, f 125, f 126, f 127, f 128, f 129, f 130, f 131, f 132, f 133, f 134, f 135, f 136, f 137], []⟩ := frame_lit 138 a h
set_option maxRecDepth 100000 in
theorem kindOf_any (r z : Nat) (w : World) (hr : r ≤ 1114111) (hz : kindN r = z) :
    Calls Tryd.prog 46 #[.int .i32 (r : Int)] w fun e w' => e = .returned (.int .i64 (z : Int)) ∧ w = w' := by
  have HZ := Lib.hid hz
  clear hz
  have hr0 : (0 : Int) ≤ (r : Int) := by omega
  by_cases h1 : 97 ≤ r ∧ r ≤ 122
  · obtain ⟨h1, h2⟩ := h1
    obtain rfl : z = 1 := by rw [← HZ.out]; unfold kindN; rw [if_pos (by omega)]
    go_enter Tryd.func46, Tryd.ntmps46
    go_wp2
    go_ret
    exact ⟨rfl, rfl⟩
  by_cases h3 : 65 ≤ r ∧ r ≤ 90
  · obtain ⟨h3, h4⟩ := h3
    obtain rfl : z = 1 := by rw [← HZ.out]; unfold kindN; rw [if_pos (by omega)]
    go_enter Tryd.func46, Tryd.ntmps46
    go_wp2
    go_ret
    exact ⟨rfl, rfl⟩
  by_cases h5 : 48 ≤ r ∧ r ≤ 57
  · obtain ⟨h5, h6⟩ := h5
    obtain rfl : z = 2 := by rw [← HZ.out]; unfold kindN; rw [if_neg (by omega), if_pos (by omega)]
    go_enter Tryd.func46, Tryd.ntmps46
    go_wp2
    go_ret
    exact ⟨rfl, rfl⟩
  · obtain rfl : z = 0 := by rw [← HZ.out]; unfold kindN; rw [if_neg (by omega), if_neg (by omega)]
    have h7 : (r : Int) < 48 ∨ ((57 : Int) < r ∧ (r : Int) < 65) ∨ ((90 : Int) < r ∧ (r : Int) < 97) ∨ (122 : Int) < r := by omega
    clear h1 h3 h5 HZ
    rcases h7 with h | ⟨h, h'⟩ | ⟨h, h'⟩ | h
    all_goals
      go_enter Tryd.func46, Tryd.ntmps46
      go_wp2
      go_ret
      exact ⟨rfl, rfl⟩
theorem kind_le (r : Nat) : kindN r = 0 ∨ kindN r = 1 ∨ kindN r = 2 := by
  unfold kindN
  split
  · simp
  split <;> simp
def skB (sk : Bool) (k : Nat) : Bool := sk && !(k == 0)
theorem set_le {a : List Nat} (h : ∀ r ∈ a, r ≤ 1114111) {j v : Nat} (hv : v ≤ 1114111) : ∀ r ∈ a.set j v, r ≤ 1114111 := by
  intro r hr
  rcases List.mem_or_eq_of_mem_set hr with h1 | rfl
  · exact h r h1
  · exact hv
theorem sl_go (j : Nat) (a : List Nat) (c la k : Nat) (sk : Bool) (r : Nat) (hr : a.getD j 0 = r) (h : ¬ SS.stop ⟨a, c, la, k, sk⟩ r) :
    sloop (j + 1) ⟨a, c, la, k, sk⟩ = if incR r then ⟨a.set j (r + 1), 32, j, k, sk⟩ else if r = 122 then sloop j ⟨a.set j 97, 97, j, 1, false⟩ else if r = 90 then sloop j ⟨a.set j 65, 65, j, 1, false⟩ else if r = 57 then sloop j ⟨a.set j 48, 49, j, 2, false⟩ else sloop j ⟨a, c, la, k, true⟩ := by
  rw [sloop]
  simp only [hr]
  rw [if_neg h]
def encs (xs : List Nat) : List UInt8 := (xs.map fun (n : Nat) => Lib.encodeRune (n : Int)).flatten
theorem encs_snoc (xs : List Nat) (x : Nat) : encs (xs ++ [x]) = encs xs ++ Lib.encodeRune (x : Int) := by simp [encs]
theorem encs_app (xs ys : List Nat) : encs (xs ++ ys) = encs xs ++ encs ys := by simp [encs]
theorem encs_len (xs : List Nat) : (encs xs).length ≤ 4 * xs.length := by
  induction xs with
  | nil => simp [encs]
  | cons x xs ih =>
    have := encode_len (x : Int)
    have e : encs (x :: xs) = Lib.encodeRune (x : Int) ++ encs xs := by simp [encs]
    rw [e, List.length_append, List.length_cons]
    omega
theorem growZ (b n : Nat) (z : Int) (hz : z = (n : Int)) (w : World) (hbk : w.heap[b]? = some (.cells #[.pointer none, .slice none 0 0] 51 (0, 0))) (hn : n ≤ 281474976710656) :
    Calls Tryd.prog 47 #[.pointer (some ⟨b, 0, none⟩), .int .i64 z] w fun e w' => e = .returned (.tuple #[]) ∧ IsB b [] w' ∧ Below b w w' := by
  subst hz
  exact grow_any b n w hbk hn

set_option maxHeartbeats 8000000 in
set_option maxRecDepth 100000 in
theorem succ_any (s : ByteArray) (w : World) (hs : s.size ≤ 2147483647) :
    Calls Tryd.prog 30 #[.string s] w fun e w' => e = .returned (.string (textOf (succR (rnsOf s.data.toList)))) ∧ Below w.heap.size w w' := by
  by_cases hse : s.toList = []
  · have hd : s.data.toList = [] := by rw [← Lib.toList_data]; exact hse
    have hs0 : s = ⟨#[]⟩ := by
      apply ByteArray.ext
      exact Array.toList_inj.1 hd
    subst hs0
    clear hd hse
    go_enter Tryd.func30, Tryd.ntmps30
    go_wp2
    go_ret
    exact ⟨rfl, Below.refl _ _⟩
  have hse2 : s.toList.isEmpty = false := by cases h : s.toList with | nil => exact absurd h hse | cons a l => rfl
  obtain ⟨L, hL⟩ : ∃ L, rnsOf s.data.toList = L := ⟨_, rfl⟩
  have hLle := rnsOf_length s.data.toList
  have hLr := rnsOf_le s.data.toList
  have hL1 : 1 ≤ L.length := by
    have : s.data.toList ≠ [] := by rw [← Lib.toList_data]; exact hse
    rw [← hL]
    unfold rnsOf
    rw [segs_step _ this]
    simp
  have hA : Conv.runesFrom s s.size 0 #[] = (L.map rcell).toArray := by
    rw [convRunes s s.size 0 #[] (by omega)]
    simp [hL]
  have hcv := run_runes_of_string (P := Tryd.prog) w 9 39 21 s Tryd.underlying9 Tryd.underlying39 Tryd.underlying21 (by have := size_runesFrom s s.size 0 #[]; simp at this; omega)
  rw [hA] at hcv
  have hsz : ((L.map rcell).toArray).size = L.length := by simp
  rw [hsz] at hcv
  rw [hL] at hLle hLr ⊢
  rw [← Lib.size_eq] at hLle
  obtain ⟨FIN, hFIN⟩ : ∃ FIN, succR L = FIN := ⟨_, rfl⟩
  rw [hFIN]
  have hcap := grownCap_ge w L.length 0 21
  have hrow : RowR w.heap.size L (w.drew.alloc (.cells ((L.map rcell).toArray ++ Array.replicate (grownCap w L.length 0 21 - L.length) (.int .i32 0)) 21)) := ⟨_, heap_alloc_new w.drew _⟩
  have hbw0 : Below w.heap.size w (w.drew.alloc (.cells ((L.map rcell).toArray ++ Array.replicate (grownCap w L.length 0 21 - L.length) (.int .i32 0)) 21)) := ((Below.refl _ w).drew).alloc (Nat.le_refl _) _
  generalize w.drew.alloc (.cells ((L.map rcell).toArray ++ Array.replicate (grownCap w L.length 0 21 - L.length) (.int .i32 0)) 21) = W1 at hcv hrow hbw0
  generalize grownCap w L.length 0 21 = CAP at hcv hcap
  obtain ⟨n, hn⟩ : ∃ n, L.length = n := ⟨_, rfl⟩
  obtain ⟨R, hR⟩ : ∃ R, w.heap.size = R := ⟨_, rfl⟩
  rw [hn] at hcv hcap hLle hL1
  rw [hR] at hcv hrow
  have hF0 : sfin (sloop n ⟨L, 32, n, 0, false⟩) = FIN := by rw [← hFIN, ← hn]; rfl
  have HN := Lib.hid hn
  have HRR := Lib.hid hR
  have HF0 := Lib.hid hF0
  have HLR := Lib.hid hLr
  clear hn hR hF0 hLr hFIN hsz hA hL
  go_enter Tryd.func30, Tryd.ntmps30
  go_upto_block 0 with fail
  clear hcv
  refine wp_cut (fun a0 wx => ∃ (a : List Nat) (c la k : Nat) (sk : Bool), RowR R a wx ∧ Below w.heap.size w wx ∧ sfin ⟨a, c, la, k, sk⟩ = FIN ∧ a.length = n ∧ (∀ r ∈ a, r ≤ 1114111) ∧ la ≤ n ∧ (c ≠ 32 → la < n) ∧ c ≤ 122 ∧ Fr 138 a0 ∧ Sl a0 0 = .string s ∧ Sl a0 4 = .int .i32 (c : Int) ∧ Sl a0 5 = .slice (some ⟨R, 0, none⟩) n CAP ∧ Sl a0 6 = .int .i64 (n : Int) ∧ Sl a0 7 = .int .i64 (la : Int)) ?restB ?firstB
  case firstB =>
    intro JB KB hJB hKB
    go_wp2_with fail
    refine wp_loop_ghost_k (fun i a0 wr => ∃ (a : List Nat) (c la k : Nat) (sk : Bool), RowR R a wr ∧ Below w.heap.size w wr ∧ sfin (sloop i ⟨a, c, la, k, sk⟩) = FIN ∧ a.length = n ∧ (∀ r ∈ a, r ≤ 1114111) ∧ la ≤ n ∧ (c ≠ 32 → la < n) ∧ c ≤ 122 ∧ i ≤ n ∧ k ≤ 2 ∧ Fr 138 a0 ∧ Sl a0 0 = .string s ∧ Sl a0 4 = .int .i32 (c : Int) ∧ Sl a0 5 = .slice (some ⟨R, 0, none⟩) n CAP ∧ Sl a0 6 = .int .i64 (n : Int) ∧ Sl a0 7 = .int .i64 (la : Int) ∧ Sl a0 8 = .int .i64 (k : Int) ∧ Sl a0 9 = .bool sk ∧ Sl a0 10 = .int .i64 ((i : Int) - 1)) n ?atStart ?round
    case atStart => exact ⟨L, 32, n, 0, false, hrow, hbw0, HF0.out, HN.out, HLR.out, Nat.le_refl _, fun h => absurd rfl h, by decide, Nat.le_refl _, by decide, ⟨rfl, rfl⟩, rfl, rfl, rfl, rfl, rfl, rfl, rfl, rfl⟩
    case round =>
    intro i a0 wr hinv J K hJ hK
    obtain ⟨a, c, la, k, sk, hrw, hbw, hfin, hlen, hall, hla, hcl, hc122, hin, hk2, hFr, hS0, hS4, hS5, hS6, hS7, hS8, hS9, hS10⟩ := hinv
    have HFIN := Lib.hid hfin
    have HALL := Lib.hid hall
    have HCL := Lib.hid hcl
    clear hfin hall hcl hrow hbw0 HF0 HN HLR
    by_cases hi0 : i = 0
    · subst hi0
      obtain ⟨f, hf, hA⟩ := lit138 a0 hFr
      rw [hf] at hS0 hS4 hS5 hS6 hS7 hS8 hS9 hS10
      rw [hS0, hS4, hS5, hS6, hS7, hS8, hS9, hS10] at hA
      clear hf hFr hS0 hS4 hS5 hS6 hS7 hS8 hS9 hS10
      subst hA
      have hm1 : ((0 : Nat) : Int) - 1 = -1 := by omega
      rw [hm1]
      clear hm1
      go_wp2_with fail
      refine Met.intro ?_
      go_step
      exact ⟨a, c, la, k, sk, hrw, hbw, HFIN.out, hlen, HALL.out, hla, HCL.out, hc122, ⟨rfl, rfl⟩, rfl, rfl, rfl, rfl, rfl⟩
    obtain ⟨j, hj⟩ : ∃ j, i = j + 1 := ⟨i - 1, by omega⟩
    subst hj
    clear hi0
    have hm1 : ((j + 1 : Nat) : Int) - 1 = (j : Int) := by omega
    rw [hm1] at hS10
    clear hm1
    obtain ⟨f, hf, hA⟩ := lit138 a0 hFr
    rw [hf] at hS0 hS4 hS5 hS6 hS7 hS8 hS9 hS10
    rw [hS0, hS4, hS5, hS6, hS7, hS8, hS9, hS10] at hA
    clear hf hFr hS0 hS4 hS5 hS6 hS7 hS8 hS9 hS10
    subst hA
    have hjl : j < a.length := by omega
    obtain ⟨r, hr⟩ : ∃ r, a[j]? = some r := ⟨_, List.getElem?_eq_getElem hjl⟩
    have hcell := hrw.cell hr
    have hfz := hrw.frozen j
    have hr1 : r ≤ 1114111 := HALL.out r (List.mem_of_getElem? hr)
    have hr0 : (0 : Int) ≤ (r : Int) := by omega
    have hjz : (0 : Int) ≤ (j : Int) := by omega
    have hjn : (j : Int) < (n : Int) := by omega
    have HGD := Lib.hid (show a.getD j 0 = r by rw [List.getD, hr]; rfl)
    clear hr
    have HST := Lib.hid (fun (v : Nat) => hrw.store (k := j) (v := v) hjl)
    have HRW := Lib.hid hrw
    clear hrw
    go_upto_region 14 with fail
    refine wp_cut (fun a0 wx => wr = wx ∧ Fr 138 a0 ∧ Sl a0 0 = .string s ∧ Sl a0 3 = .int .i32 (r : Int) ∧ Sl a0 4 = .int .i32 (c : Int) ∧ Sl a0 5 = .slice (some ⟨R, 0, none⟩) n CAP ∧ Sl a0 6 = .int .i64 (n : Int) ∧ Sl a0 7 = .int .i64 (la : Int) ∧ Sl a0 8 = .int .i64 (k : Int) ∧ Sl a0 9 = .bool sk ∧ Sl a0 10 = .int .i64 (j : Int) ∧ Sl a0 35 = .bool (skB sk k)) ?resta ?firsta
    case firsta =>
      intro Ja Ka hJa hKa
      cases sk with
      | false =>
        go_wp2_with fail
        refine Met.intro ?_
        go_step
        exact ⟨rfl, ⟨rfl, rfl⟩, rfl, rfl, rfl, rfl, rfl, rfl, rfl, rfl, rfl, rfl⟩
      | true =>
        have hk3 : k = 0 ∨ k = 1 ∨ k = 2 := by omega
        rcases hk3 with rfl | rfl | rfl
        all_goals
          go_wp2_with fail
          refine Met.intro ?_
          go_step
          exact ⟨rfl, ⟨rfl, rfl⟩, rfl, rfl, rfl, rfl, rfl, rfl, rfl, rfl, rfl, rfl⟩
    case resta =>
    intro a0 wx hcut
    obtain ⟨rfl, hFr, hS0, hS3, hS4, hS5, hS6, hS7, hS8, hS9, hS10, hS35⟩ := hcut
    obtain ⟨f, hf, hA⟩ := lit138 a0 hFr
    rw [hf] at hS0 hS3 hS4 hS5 hS6 hS7 hS8 hS9 hS10 hS35
    rw [hS0, hS3, hS4, hS5, hS6, hS7, hS8, hS9, hS10, hS35] at hA
    clear hf hFr hS0 hS3 hS4 hS5 hS6 hS7 hS8 hS9 hS10 hS35
    subst hA
    go_upto_if 35 with fail
    refine wp_cut (fun a0 wx => wr = wx ∧ ¬ SS.stop ⟨a, c, la, k, sk⟩ r ∧ Fr 138 a0 ∧ Sl a0 0 = .string s ∧ Sl a0 3 = .int .i32 (r : Int) ∧ Sl a0 4 = .int .i32 (c : Int) ∧ Sl a0 5 = .slice (some ⟨R, 0, none⟩) n CAP ∧ Sl a0 6 = .int .i64 (n : Int) ∧ Sl a0 7 = .int .i64 (la : Int) ∧ Sl a0 8 = .int .i64 (k : Int) ∧ Sl a0 9 = .bool sk ∧ Sl a0 10 = .int .i64 (j : Int)) ?restb ?firstb
    case firstb =>
      intro Jb Kb hJb hKb
      cases h35 : skB sk k with
      | false =>
        have H35 := Lib.hid h35
        clear h35
        go_wp2_with fail
        refine Met.intro ?_
        go_step
        exact ⟨rfl, (fun h => by have := H35.out; have h1 : sk = true := h.1; have h2 : k ≠ 0 := h.2.1; simp [skB, h1, h2] at this), ⟨rfl, rfl⟩, rfl, rfl, rfl, rfl, rfl, rfl, rfl, rfl, rfl⟩
      | true =>
        obtain ⟨hsk, hk12⟩ : sk = true ∧ (k = 1 ∨ k = 2) := by
          simp [skB] at h35
          exact ⟨h35.1, by omega⟩
        subst hsk
        clear h35
        rcases kind_le r with hkr | hkr | hkr
        · have CK := Lib.hid (fun w => kindOf_any r 0 w hr1 hkr)
          have HKR := Lib.hid hkr
          clear hkr
          rcases hk12 with rfl | rfl
          · go_wp2_with (go_at_call 46; (with_reducible refine (CK.out _).mono ?_); rintro e w9 ⟨rfl, rfl⟩; dsimp only)
            refine Met.intro ?_
            go_step
            exact ⟨rfl, (fun h => h.2.2.1 HKR.out), ⟨rfl, rfl⟩, rfl, rfl, rfl, rfl, rfl, rfl, rfl, rfl, rfl⟩
          · go_wp2_with (go_at_call 46; (with_reducible refine (CK.out _).mono ?_); rintro e w9 ⟨rfl, rfl⟩; dsimp only)
            refine Met.intro ?_
            go_step
            exact ⟨rfl, (fun h => h.2.2.1 HKR.out), ⟨rfl, rfl⟩, rfl, rfl, rfl, rfl, rfl, rfl, rfl, rfl, rfl⟩
        · have CK := Lib.hid (fun w => kindOf_any r 1 w hr1 hkr)
          have HKR := Lib.hid hkr
          clear hkr
          rcases hk12 with rfl | rfl
          · go_wp2_with (go_at_call 46; (with_reducible refine (CK.out _).mono ?_); rintro e w9 ⟨rfl, rfl⟩; dsimp only)
            refine Met.intro ?_
            go_step
            exact ⟨rfl, (fun h => h.2.2.2 HKR.out), ⟨rfl, rfl⟩, rfl, rfl, rfl, rfl, rfl, rfl, rfl, rfl, rfl⟩
          · go_wp2_with (go_at_call 46; (with_reducible refine (CK.out _).mono ?_); rintro e w9 ⟨rfl, rfl⟩; dsimp only)
            refine Met.intro ?_
            go_step
            exact ⟨a, c, la, 2, true, HRW.out, hbw, (by have := HFIN.out; rw [sloop, HGD.out, if_pos ⟨rfl, (show (2 : Nat) ≠ 0 by decide), (by rw [HKR.out]; decide), (by rw [HKR.out]; show (1 : Nat) ≠ 2; decide)⟩] at this; exact this), hlen, HALL.out, hla, HCL.out, hc122, ⟨rfl, rfl⟩, rfl, rfl, rfl, rfl, rfl⟩
        · have CK := Lib.hid (fun w => kindOf_any r 2 w hr1 hkr)
          have HKR := Lib.hid hkr
          clear hkr
          rcases hk12 with rfl | rfl
          · go_wp2_with (go_at_call 46; (with_reducible refine (CK.out _).mono ?_); rintro e w9 ⟨rfl, rfl⟩; dsimp only)
            refine Met.intro ?_
            go_step
            exact ⟨a, c, la, 1, true, HRW.out, hbw, (by have := HFIN.out; rw [sloop, HGD.out, if_pos ⟨rfl, (show (1 : Nat) ≠ 0 by decide), (by rw [HKR.out]; decide), (by rw [HKR.out]; show (2 : Nat) ≠ 1; decide)⟩] at this; exact this), hlen, HALL.out, hla, HCL.out, hc122, ⟨rfl, rfl⟩, rfl, rfl, rfl, rfl, rfl⟩
          · go_wp2_with (go_at_call 46; (with_reducible refine (CK.out _).mono ?_); rintro e w9 ⟨rfl, rfl⟩; dsimp only)
            refine Met.intro ?_
            go_step
            exact ⟨rfl, (fun h => h.2.2.2 HKR.out), ⟨rfl, rfl⟩, rfl, rfl, rfl, rfl, rfl, rfl, rfl, rfl, rfl⟩
    case restb =>
    intro a0 wx hcut
    obtain ⟨rfl, hns, hFr, hS0, hS3, hS4, hS5, hS6, hS7, hS8, hS9, hS10⟩ := hcut
    obtain ⟨f, hf, hA⟩ := lit138 a0 hFr
    rw [hf] at hS0 hS3 hS4 hS5 hS6 hS7 hS8 hS9 hS10
    rw [hS0, hS3, hS4, hS5, hS6, hS7, hS8, hS9, hS10] at hA
    clear hf hFr hS0 hS3 hS4 hS5 hS6 hS7 hS8 hS9 hS10
    subst hA
    have HGO := Lib.hid (sl_go j a c la k sk r HGD.out hns)
    clear hns
    have hrz : ((97 : Int) ≤ r ∧ (r : Int) ≤ 121) ∨ ((65 : Int) ≤ r ∧ (r : Int) ≤ 89) ∨ ((48 : Int) ≤ r ∧ (r : Int) ≤ 56) ∨ r = 122 ∨ r = 90 ∨ r = 57 ∨ (r : Int) < 48 ∨ ((57 : Int) < r ∧ (r : Int) < 65) ∨ ((90 : Int) < r ∧ (r : Int) < 97) ∨ (122 : Int) < r := by omega
    rcases hrz with ⟨h, h'⟩ | ⟨h, h'⟩ | ⟨h, h'⟩ | rfl | rfl | rfl | h | ⟨h, h'⟩ | ⟨h, h'⟩ | h
    · have hst := HST.out (r + 1)
      rw [show ((r + 1 : Nat) : Int) = (r : Int) + 1 by omega] at hst
      have HS2 := Lib.hid hst
      clear hst
      go_wp2_with fail
      refine Met.intro ?_
      go_step
      exact ⟨a.set j (r + 1), 32, j, k, sk, HS2.out, hbw.setCell (by rw [HRR.out]; exact Nat.le_refl _) _, (by have := HFIN.out; rw [HGO.out, if_pos (by unfold incR; omega)] at this; exact this), (by rw [List.length_set]; exact hlen), set_le HALL.out (by omega), (by omega), (fun h => absurd rfl h), (by decide), ⟨rfl, rfl⟩, rfl, rfl, rfl, rfl, rfl⟩
    · have hst := HST.out (r + 1)
      rw [show ((r + 1 : Nat) : Int) = (r : Int) + 1 by omega] at hst
      have HS2 := Lib.hid hst
      clear hst
      go_wp2_with fail
      refine Met.intro ?_
      go_step
      exact ⟨a.set j (r + 1), 32, j, k, sk, HS2.out, hbw.setCell (by rw [HRR.out]; exact Nat.le_refl _) _, (by have := HFIN.out; rw [HGO.out, if_pos (by unfold incR; omega)] at this; exact this), (by rw [List.length_set]; exact hlen), set_le HALL.out (by omega), (by omega), (fun h => absurd rfl h), (by decide), ⟨rfl, rfl⟩, rfl, rfl, rfl, rfl, rfl⟩
    · have hst := HST.out (r + 1)
      rw [show ((r + 1 : Nat) : Int) = (r : Int) + 1 by omega] at hst
      have HS2 := Lib.hid hst
      clear hst
      go_wp2_with fail
      refine Met.intro ?_
      go_step
      exact ⟨a.set j (r + 1), 32, j, k, sk, HS2.out, hbw.setCell (by rw [HRR.out]; exact Nat.le_refl _) _, (by have := HFIN.out; rw [HGO.out, if_pos (by unfold incR; omega)] at this; exact this), (by rw [List.length_set]; exact hlen), set_le HALL.out (by omega), (by omega), (fun h => absurd rfl h), (by decide), ⟨rfl, rfl⟩, rfl, rfl, rfl, rfl, rfl⟩
    · have hst := HST.out 97
      have HS2 : Hid (RowR R (a.set j 97) (wr.setCell ⟨R, j, none⟩ (.int .i32 97))) := Lib.hid hst
      clear hst
      go_wp2_with fail
      refine Handed.intro j (by omega) ?_
      go_step
      exact ⟨a.set j 97, 97, j, 1, false, HS2.out, hbw.setCell (by rw [HRR.out]; exact Nat.le_refl _) _, (by have := HFIN.out; rw [HGO.out, if_neg (by unfold incR; omega)] at this; first | exact this | (rw [if_pos rfl] at this; exact this)), (by rw [List.length_set]; exact hlen), set_le HALL.out (by decide), (by omega), (fun _ => by omega), (by decide), (by omega), (by decide), ⟨rfl, rfl⟩, rfl, rfl, rfl, rfl, rfl, rfl, rfl, rfl⟩
    · have hst := HST.out 65
      have HS2 : Hid (RowR R (a.set j 65) (wr.setCell ⟨R, j, none⟩ (.int .i32 65))) := Lib.hid hst
      clear hst
      go_wp2_with fail
      refine Handed.intro j (by omega) ?_
      go_step
      exact ⟨a.set j 65, 65, j, 1, false, HS2.out, hbw.setCell (by rw [HRR.out]; exact Nat.le_refl _) _, (by have := HFIN.out; rw [HGO.out, if_neg (by unfold incR; omega), if_neg (by decide)] at this; first | exact this | (rw [if_pos rfl] at this; exact this)), (by rw [List.length_set]; exact hlen), set_le HALL.out (by decide), (by omega), (fun _ => by omega), (by decide), (by omega), (by decide), ⟨rfl, rfl⟩, rfl, rfl, rfl, rfl, rfl, rfl, rfl, rfl⟩
    · have hst := HST.out 48
      have HS2 : Hid (RowR R (a.set j 48) (wr.setCell ⟨R, j, none⟩ (.int .i32 48))) := Lib.hid hst
      clear hst
      go_wp2_with fail
      refine Handed.intro j (by omega) ?_
      go_step
      exact ⟨a.set j 48, 49, j, 2, false, HS2.out, hbw.setCell (by rw [HRR.out]; exact Nat.le_refl _) _, (by have := HFIN.out; rw [HGO.out, if_neg (by unfold incR; omega), if_neg (by decide), if_neg (by decide)] at this; first | exact this | (rw [if_pos rfl] at this; exact this)), (by rw [List.length_set]; exact hlen), set_le HALL.out (by decide), (by omega), (fun _ => by omega), (by decide), (by omega), (by decide), ⟨rfl, rfl⟩, rfl, rfl, rfl, rfl, rfl, rfl, rfl, rfl⟩
    · go_wp2_with fail
      refine Handed.intro j (by omega) ?_
      go_step
      exact ⟨a, c, la, k, true, HRW.out, hbw, (by have := HFIN.out; rw [HGO.out, if_neg (by unfold incR; omega), if_neg (by omega), if_neg (by omega), if_neg (by omega)] at this; exact this), hlen, HALL.out, hla, HCL.out, hc122, (by omega), hk2, ⟨rfl, rfl⟩, rfl, rfl, rfl, rfl, rfl, rfl, rfl, rfl⟩
    · go_wp2_with fail
      refine Handed.intro j (by omega) ?_
      go_step
      exact ⟨a, c, la, k, true, HRW.out, hbw, (by have := HFIN.out; rw [HGO.out, if_neg (by unfold incR; omega), if_neg (by omega), if_neg (by omega), if_neg (by omega)] at this; exact this), hlen, HALL.out, hla, HCL.out, hc122, (by omega), hk2, ⟨rfl, rfl⟩, rfl, rfl, rfl, rfl, rfl, rfl, rfl, rfl⟩
    · go_wp2_with fail
      refine Handed.intro j (by omega) ?_
      go_step
      exact ⟨a, c, la, k, true, HRW.out, hbw, (by have := HFIN.out; rw [HGO.out, if_neg (by unfold incR; omega), if_neg (by omega), if_neg (by omega), if_neg (by omega)] at this; exact this), hlen, HALL.out, hla, HCL.out, hc122, (by omega), hk2, ⟨rfl, rfl⟩, rfl, rfl, rfl, rfl, rfl, rfl, rfl, rfl⟩
    · go_wp2_with fail
      refine Handed.intro j (by omega) ?_
      go_step
      exact ⟨a, c, la, k, true, HRW.out, hbw, (by have := HFIN.out; rw [HGO.out, if_neg (by unfold incR; omega), if_neg (by omega), if_neg (by omega), if_neg (by omega)] at this; exact this), hlen, HALL.out, hla, HCL.out, hc122, (by omega), hk2, ⟨rfl, rfl⟩, rfl, rfl, rfl, rfl, rfl, rfl, rfl, rfl⟩
  case restB =>
  intro a0 wx hcut
  obtain ⟨a, c, la, k, sk, hrw, hbw, hfin, hlen, hall, hla, hcl, hc122, hFr, hS0, hS4, hS5, hS6, hS7⟩ := hcut
  obtain ⟨f, hf, hA⟩ := lit138 a0 hFr
  rw [hf] at hS0 hS4 hS5 hS6 hS7
  rw [hS0, hS4, hS5, hS6, hS7] at hA
  clear hf hFr hS0 hS4 hS5 hS6 hS7
  subst hA
  have HFIN := Lib.hid hfin
  have HALL := Lib.hid hall
  clear hfin hall hrow hbw0 HF0 HN HLR
  by_cases hc : c = 32
  · subst hc
    by_cases hln : la = n
    · subst hln
      obtain ⟨x, hx⟩ : ∃ x, a[la - 1]? = some x := ⟨_, List.getElem?_eq_getElem (by omega)⟩
      have hcell := hrw.cell hx
      have hfz := hrw.frozen (la - 1)
      have hx1 : x ≤ 1114111 := HALL.out x (List.mem_of_getElem? hx)
      have hst := hrw.store (k := la - 1) (v := x + 1) (by omega)
      rw [show ((x + 1 : Nat) : Int) = (x : Int) + 1 by omega] at hst
      have hcv := conv_text Tryd.underlying39 Tryd.underlying21 Tryd.underlying9 hst la CAP (by rw [List.length_set]; omega)
      rw [List.take_of_length_le (by rw [List.length_set]; omega)] at hcv
      have HX := Lib.hid (show a.getD (la - 1) 0 = x by rw [List.getD, hx]; rfl)
      have hx0 : (0 : Int) ≤ (x : Int) := by omega
      have hl0 : (0 : Int) ≤ (la : Int) - 1 := by omega
      have HB9 := Lib.hid (hbw.setCell (p := ⟨R, la - 1, none⟩) (by rw [HRR.out]; exact Nat.le_refl _) (.int .i32 ((x : Int) + 1)))
      clear hx hst hrw hbw
      go_wp2_with fail
      go_ret
      have hfin := HFIN.out
      unfold sfin at hfin
      simp only [ne_eq, not_true_eq_false, if_false, hlen, if_true, HX.out] at hfin
      exact ⟨ret_str (by rw [hfin]), HB9.out⟩
    · have hlz : ((la : Int) == (n : Int)) = false := by rw [beq_eq_false_iff_ne]; omega
      have hcv := conv_text Tryd.underlying39 Tryd.underlying21 Tryd.underlying9 hrw n CAP (by omega)
      rw [List.take_of_length_le (by omega)] at hcv
      have HLN := Lib.hid hln
      clear hln hrw
      go_wp2_with fail
      go_ret
      have hfin := HFIN.out
      unfold sfin at hfin
      simp only [ne_eq, not_true_eq_false, if_false, hlen, HLN.out] at hfin
      exact ⟨ret_str (by rw [hfin]), hbw⟩
  · have hlt := hcl hc
    have hcz : ((c : Int) == 32) = false := by rw [beq_eq_false_iff_ne]; omega
    have hcz2 : ((c : Int) != 32) = true := by rw [bne, hcz]; rfl
    have HC := Lib.hid hc
    have hRlt := hrw.lt
    clear hc hcl
    have hfr := heap_alloc_new wx (.cells #[.pointer none, .slice none 0 0] 51)
    have HG := Lib.hid (growZ wx.heap.size (n + 4) ((n : Int) + 4) (by omega) _ hfr (by omega))
    clear hfr
    go_wp2_with (go_at_call 47; (with_reducible refine HG.out.mono ?_))
    rintro e w2 ⟨rfl, hB2, hb2⟩
    dsimp only
    have hrw2 : RowR R a w2 := hrw.keep ((hb2.block R hRlt).trans (Lib.alloc_old wx _ R hRlt))
    have hbw2 : Below w.heap.size w w2 := hbw.trans (((((Below.refl _ wx).alloc (Nat.le_refl _) _).trans hb2)).mono hbw.size)
    have hble := hbw.size
    clear HG hb2 hbw hrw
    obtain ⟨b, hb⟩ : ∃ b, wx.heap.size = b := ⟨_, rfl⟩
    rw [hb] at hB2 hble hRlt ⊢
    clear hb
    go_upto_if 102 with fail
    refine wp_cut (fun a0 wx => IsB b (encs (a.take la)) wx ∧ RowR R a wx ∧ Below w.heap.size w wx ∧ Fr 138 a0 ∧ Sl a0 0 = .string s ∧ Sl a0 4 = .int .i32 (c : Int) ∧ Sl a0 5 = .slice (some ⟨R, 0, none⟩) n CAP ∧ Sl a0 6 = .int .i64 (n : Int) ∧ Sl a0 7 = .int .i64 (la : Int) ∧ Sl a0 12 = .pointer (some ⟨b, 0, none⟩)) ?restd ?firstd
    case firstd =>
      intro Jd Kd hJd hKd
      by_cases hl0 : la = 0
      · subst hl0
        go_wp2_with fail
        refine Met.intro ?_
        go_step
        exact ⟨(by rw [List.take_zero]; exact hB2), hrw2, hbw2, ⟨rfl, rfl⟩, rfl, rfl, rfl, rfl, rfl, rfl⟩
      · have hlz : ((la : Int) == 0) = false := by rw [beq_eq_false_iff_ne]; omega
        have hlz0 : (0 : Int) ≤ (la : Int) := by omega
        have hlz1 : (la : Int) ≤ (CAP : Int) := by omega
        have hlz2 : la ≤ CAP := by omega
        have hcv := conv_text Tryd.underlying39 Tryd.underlying21 Tryd.underlying9 hrw2 la CAP (by omega)
        have hel := encs_len (a.take la)
        have htl : (a.take la).length ≤ n := by rw [List.length_take]; omega
        have hws : ([] : List UInt8).length + (textOf (a.take la)).size ≤ 140737488355328 := by rw [Lib.size_eq]; show 0 + (encs (a.take la)).length ≤ _; omega
        have HW := Lib.hid (writeString_any b [] (textOf (a.take la)) w2 hB2 hws)
        clear hws hel htl hl0
        go_wp2_with (go_at_call 48; (with_reducible refine HW.out.mono ?_); rintro e w3 ⟨rfl, hB3, hb3, -⟩; dsimp only)
        refine Met.intro ?_
        go_step
        exact ⟨hB3, hrw2.keep (hb3.block R hRlt), hbw2.trans (hb3.mono hble), ⟨rfl, rfl⟩, rfl, rfl, rfl, rfl, rfl, rfl⟩
    case restd =>
    intro a0 wx hcut
    obtain ⟨hB4, hrw4, hbw4, hFr, hS0, hS4, hS5, hS6, hS7, hS12⟩ := hcut
    obtain ⟨f, hf, hA⟩ := lit138 a0 hFr
    rw [hf] at hS0 hS4 hS5 hS6 hS7 hS12
    rw [hS0, hS4, hS5, hS6, hS7, hS12] at hA
    clear hf hFr hS0 hS4 hS5 hS6 hS7 hS12
    subst hA
    have hel := encs_len (a.take la)
    have htl : (a.take la).length ≤ n := by rw [List.length_take]; omega
    have hwl : (encs (a.take la)).length + 4 ≤ 140737488355328 := by omega
    have hc0 : -2147483648 ≤ (c : Int) := by omega
    have hc1 : (c : Int) ≤ 2147483647 := by omega
    have HW := Lib.hid (writeRune_any b (encs (a.take la)) (c : Int) _ hc0 hc1 hB4 hwl)
    clear hc0 hc1 hwl
    have hlz0 : (0 : Int) ≤ (la : Int) := by omega
    have hlz1 : (la : Int) ≤ (n : Int) := by omega
    have hlz2 : (n : Int) ≤ (CAP : Int) := by omega
    have hlz3 : ¬ CAP = la := by omega
    go_wp2_with (go_at_call 49; (with_reducible refine HW.out.mono ?_); rintro e w5 ⟨rfl, hB5, hb5, -⟩; dsimp only)
    have hrw5 := hrw4.keep (hb5.block R hRlt)
    have hbw5 := hbw4.trans (hb5.mono hble)
    clear HW hB4 hrw4 hbw4 hb5
    obtain ⟨B1, hB1⟩ : ∃ B1, encs (a.take la) ++ Lib.encodeRune (c : Int) = B1 := ⟨_, rfl⟩
    have hBl : B1.length ≤ 4 * n + 4 := by rw [← hB1, List.length_append]; have := encode_len (c : Int); omega
    rw [hB1] at hB5
    have HB1 := Lib.hid hB1
    clear hB1 hel htl
    obtain ⟨M, hM⟩ : ∃ M, n - la = M := ⟨_, rfl⟩
    have hMn : la + M = n := by omega
    rw [hM]
    have HM := Lib.hid hM
    clear hM
    refine wp_loop_ghost_k (fun g a0 wr => ∃ m : Nat, m ≤ M ∧ g = M - m ∧ IsB b (B1 ++ encs ((a.drop la).take m)) wr ∧ RowR R a wr ∧ Below w.heap.size w wr ∧ Fr 138 a0 ∧ Sl a0 0 = .string s ∧ Sl a0 5 = .slice (some ⟨R, 0, none⟩) n CAP ∧ Sl a0 6 = .int .i64 (n : Int) ∧ Sl a0 12 = .pointer (some ⟨b, 0, none⟩) ∧ Sl a0 114 = .slice (some ⟨R, la, none⟩) M (CAP - la) ∧ Sl a0 115 = .int .i64 (M : Int) ∧ Sl a0 116 = .int .i64 (m : Int)) M ?atStart2 ?round2
    case atStart2 => exact ⟨0, Nat.zero_le _, rfl, by simpa [encs] using hB5, hrw5, hbw5, ⟨rfl, rfl⟩, rfl, rfl, rfl, rfl, rfl, rfl, rfl⟩
    case round2 =>
    intro g a0 wr hinv J K hJ hK
    obtain ⟨m, hm, rfl, hB6, hrw6, hbw6, hFr, hS0, hS5, hS6, hS12, hS114, hS115, hS116⟩ := hinv
    clear hB5 hrw5 hbw5
    obtain ⟨f, hf, hA⟩ := lit138 a0 hFr
    rw [hf] at hS0 hS5 hS6 hS12 hS114 hS115 hS116
    rw [hS0, hS5, hS6, hS12, hS114, hS115, hS116] at hA
    clear hf hFr hS0 hS5 hS6 hS12 hS114 hS115 hS116
    subst hA
    by_cases hmn : m < M
    · have hmz : (m : Int) < (M : Int) := by omega
      have hal : la + m < a.length := by omega
      obtain ⟨r, hr⟩ : ∃ r, a[la + m]? = some r := ⟨_, List.getElem?_eq_getElem hal⟩
      have hcell := hrw6.cell hr
      have hr1 : r ≤ 1114111 := HALL.out r (List.mem_of_getElem? hr)
      have hr0 : -2147483648 ≤ (r : Int) := by omega
      have hr2 : (r : Int) ≤ 2147483647 := by omega
      have HTK := Lib.hid (show (a.drop la).take (m + 1) = (a.drop la).take m ++ [r] by rw [List.take_add_one, List.getElem?_drop, hr]; rfl)
      clear hr
      have hel := encs_len ((a.drop la).take m)
      have htl : ((a.drop la).take m).length ≤ n := by rw [List.length_take, List.length_drop]; omega
      have hwl : (B1 ++ encs ((a.drop la).take m)).length + 4 ≤ 140737488355328 := by rw [List.length_append]; omega
      have HW := Lib.hid (writeRune_any b _ (r : Int) _ hr0 hr2 hB6 hwl)
      clear hwl hel htl hr0 hr2
      go_wp2_with (go_at_call 49; (with_reducible refine HW.out.mono ?_); rintro e w7 ⟨rfl, hB7, hb7, -⟩; dsimp only)
      refine Handed.intro (M - (m + 1)) (by omega) ?_
      go_step
      exact ⟨m + 1, by omega, rfl, (by rw [HTK.out, encs_snoc, ← List.append_assoc]; exact hB7), hrw6.keep (hb7.block R hRlt), hbw6.trans (hb7.mono hble), ⟨rfl, rfl⟩, rfl, rfl, rfl, rfl, rfl, rfl, congrArg (Value.int .i64) (by omega)⟩
    · have hmz : ¬ (m : Int) < (M : Int) := by omega
      have HS := Lib.hid (string_any b _ _ hB6)
      go_wp2_with (go_at_call 50; (with_reducible refine HS.out.mono ?_); rintro e w8 ⟨rfl, -, hb8, -⟩; dsimp only)
      go_ret
      have hfin := HFIN.out
      unfold sfin at hfin
      have hc32 : c ≠ 32 := HC.out
      simp only [ne_eq, hc32, not_false_eq_true, if_true] at hfin
      refine ⟨ret_str ?_, hbw6.trans (hb8.mono hble)⟩
      rw [← hfin, ← HB1.out, show (a.drop la).take m = a.drop la from List.take_of_length_le (by rw [List.length_drop]; omega)]
      show (⟨(encs (a.take la) ++ Lib.encodeRune (c : Int) ++ encs (a.drop la)).toArray⟩ : ByteArray) = ⟨(encs (a.take la ++ c :: a.drop la)).toArray⟩
      have e : a.take la ++ c :: a.drop la = (a.take la ++ [c]) ++ a.drop la := by simp
      rw [e, encs_app, encs_snoc]
end Go.Proofs.YtdomnccokhhieaaDoor
