/- The walk of the law FnExpandTabsLines. -/
import Derived.Test.YtdomnccokhhieaaDoorITabs
import Derived.Test.YtdomnccokhhieaaDoorValid
namespace Go.Proofs.YtdomnccokhhieaaDoor
open Go.RowKit Plain

theorem i64_bdT {x : Int} (h : (Lit.int .i64 x).wf = true) : -9223372036854775808 ≤ x ∧ x ≤ 9223372036854775807 := by simpa [Lit.wf, IntKind.min, IntKind.max, IntKind.signed, IntKind.bits] using h
theorem vld_ok6 {s : ByteArray} (h : vld s = true) : s.size ≤ 4096 ∧ Lib.validD s.data.toList = true := by simpa [vld] using h
theorem tab_hello : (⟨(expB 4 (segs (⟨#[97, 9, 98, 99]⟩ : ByteArray).data.toList) 0).toArray⟩ : ByteArray) = ⟨#[97, 32, 32, 32, 98, 99]⟩ := by decide +kernel
theorem thello_any (w : World) (hT : Tabs w) : Calls Tryd.prog 21 #[.string ⟨#[97, 9, 98, 99]⟩, .int .i64 4] w fun e w' => e = .returned (.tuple #[.string ⟨#[97, 32, 32, 32, 98, 99]⟩, .bool true]) ∧ Below w.heap.size w w' :=
  implTabs_good ⟨#[97, 9, 98, 99]⟩ 4 _ w (by decide) (by decide) (by decide) hT tab_hello
theorem expP_length (size : Nat) (h2 : size ≤ 128) : ∀ (cs : List (List UInt8)) (col : Nat), (∀ c ∈ cs, c ≠ []) → (expP size cs col).flatten.length ≤ 128 * cs.flatten.length
  | [], _, _ => by simp [expP]
  | c :: cs, col, h => by
    have hc : 1 ≤ c.length := by
      have := h c (List.mem_cons_self ..)
      cases c with
      | nil => exact absurd rfl this
      | cons _ _ => simp
    have hcs := fun d hd => h d (List.mem_cons_of_mem _ hd)
    rw [List.flatten_cons, List.length_append]
    by_cases h1 : runeOf c = 9
    · have := expP_length size h2 cs (col + (size - col % size)) hcs
      rw [expP_tab _ _ _ _ h1, List.flatten_append, flat_blank, List.length_append, List.length_replicate]
      omega
    · by_cases h3 : runeOf c = 10
      · have := expP_length size h2 cs 0 hcs
        rw [expP_nl _ _ _ _ h3, List.flatten_cons, List.length_append]; omega
      · have := expP_length size h2 cs (col + (rwid (runeOf c)).toNat) hcs
        rw [expP_else _ _ _ _ h1 h3, List.flatten_cons, List.length_append]; omega
theorem nl_piece : runeOf [10] = 10 ∧ Plain.Good [10] := by unfold Plain.Good; decide +kernel
theorem nine_piece {c : List UInt8} (hg : Plain.Good c) (h9 : ¬ runeOf c = 9) : (9 : UInt8) ∉ c := by
  intro hm
  have he := encode_runeOf c hg
  have hr := rune_le' c
  obtain ⟨i, hi⟩ := List.getElem?_of_mem hm
  rcases Nat.eq_zero_or_pos i with rfl | h0
  · cases c with
    | nil => cases hi
    | cons b r =>
      simp at hi
      subst hi
      have h1 := segs_ascii 9 r (by decide)
      have h2 := segs_step (9 :: r) (by simp)
      rw [h1] at h2
      have h3 := (List.cons.inj h2).1
      have h4 := decodeL_take (9 :: r) (by simp)
      rw [← h3] at h4
      apply h9
      unfold runeOf
      rw [← h4]
      decide +kernel
  · rw [← he] at hi
    unfold Lib.encodeRune at hi
    rw [List.getElem?_map, Option.map_eq_some_iff] at hi
    obtain ⟨z, hz, hz2⟩ := hi
    have key : 128 ≤ z ∧ z < 256 := by
      generalize runeOf c = r at hz hr
      by_cases h1 : (r : Int) ≤ 127
      · rw [Lib.encodeRuneZ_one (by omega) h1] at hz
        rcases i with _ | i
        · omega
        · simp at hz
      by_cases h2 : (r : Int) ≤ 2047
      · rw [Lib.encodeRuneZ_two (by omega) h2] at hz
        rcases i with _ | _ | i
        · omega
        · simp at hz; omega
        · simp at hz
      by_cases h3 : (2048 ≤ (r : Int) ∧ (r : Int) < 55296) ∨ (57343 < (r : Int) ∧ (r : Int) ≤ 65535)
      · rw [Lib.encodeRuneZ_three h3] at hz
        rcases i with _ | _ | _ | i
        · omega
        · simp at hz; omega
        · simp at hz; omega
        · simp at hz
      by_cases h4 : 65536 ≤ (r : Int)
      · rw [Lib.encodeRuneZ_four h4 (by omega)] at hz
        rcases i with _ | _ | _ | _ | i
        · omega
        · simp at hz; omega
        · simp at hz; omega
        · simp at hz; omega
        · simp at hz
      · rw [Lib.encodeRuneZ_bad (by omega)] at hz
        rcases i with _ | _ | _ | i
        · omega
        · simp at hz; omega
        · simp at hz; omega
        · simp at hz
    have : z.toNat % 256 = 9 := by
      have := congrArg UInt8.toNat hz2
      rw [Nat.toUInt8, UInt8.toNat_ofNat'] at this
      exact this
    omega
/-- what the law asks, of lists -/
theorem tabs_lines (size : Nat) (a b : List UInt8) (ha : Lib.validD a = true) (hb : Lib.validD b = true) :
    expB size (segs ((a ++ [10]) ++ b)) 0 = (expB size (segs a) 0 ++ [10]) ++ expB size (segs b) 0 ∧ (9 : UInt8) ∉ expB size (segs ((a ++ [10]) ++ b)) 0 ∧ expB size (segs (expB size (segs ((a ++ [10]) ++ b)) 0)) 0 = expB size (segs ((a ++ [10]) ++ b)) 0 := by
  have hs : segs ((a ++ [10]) ++ b) = segs a ++ [10] :: segs b := by
    rw [List.append_assoc, segs_append a _ ha, List.singleton_append, segs_ascii 10 b (by decide)]
  have hg : ∀ c ∈ segs ((a ++ [10]) ++ b), Plain.Good c := by
    rw [hs]
    intro c hc
    rcases List.mem_append.1 hc with hc | hc
    · exact segs_good a ha c hc
    · rcases List.mem_cons.1 hc with rfl | hc
      · exact nl_piece.2
      · exact segs_good b hb c hc
  have hE := expP_good size _ 0 hg
  refine ⟨?_, ?_, ?_⟩
  · rw [hs]
    unfold expB
    rw [expP_lines size [10] nl_piece.1]
    simp
  · intro hm
    obtain ⟨c, hc, h9⟩ := List.mem_flatten.1 hm
    exact nine_piece (hE c hc).1 (hE c hc).2 h9
  · unfold expB
    rw [segs_of_good _ (fun c hc => (hE c hc).1), expP_same size _ 0 (fun c hc => (hE c hc).2)]

set_option maxHeartbeats 4000000 in
set_option maxRecDepth 100000 in
theorem fnTabs_early (s p : ByteArray) (n : Int) (w : World) (hs0 : s.size ≤ 140737488351232) (hp0 : p.size ≤ 140737488351232) (hT : Tabs w) (h : 2147483647 < s.size ∨ 2147483647 < p.size ∨ vld s = false ∨ vld p = false ∨ n < 1 ∨ 100 < n ∨ 1000 < s.size + p.size) :
    Calls Tryd.prog 7 #[.string s, .string p, .int .i64 n] w fun e w' => e = .returned (.bool true) ∧ Below w.heap.size w w' := by
  by_cases hb : 2147483647 < s.size
  · have hbz : (2147483647 : Int) < (s.size : Int) := by omega
    go_enter Tryd.func7, Tryd.ntmps7
    go_wp2
    go_ret
    exact ⟨rfl, Below.refl _ _⟩
  by_cases hb' : 2147483647 < p.size
  · have hbz : ¬ (2147483647 : Int) < (s.size : Int) := by omega
    have hby : (2147483647 : Int) < (p.size : Int) := by omega
    go_enter Tryd.func7, Tryd.ntmps7
    go_wp2
    go_ret
    exact ⟨rfl, Below.refl _ _⟩
  have hbz : ¬ (2147483647 : Int) < (s.size : Int) := by omega
  have hby : ¬ (2147483647 : Int) < (p.size : Int) := by omega
  cases hv : vld s with
  | false =>
    have HV : Hid (∀ w, Tabs w → Calls Tryd.prog 16 #[.string s] w fun e w' => e = .returned (.bool false) ∧ Below w.heap.size w w') := Lib.hid fun w hT => hv ▸ valid_any s w (by omega) hT
    clear hv h
    go_enter Tryd.func7, Tryd.ntmps7
    go_wp2_with (go_at_call 21; (with_reducible refine (thello_any _ hT).mono ?_); rintro e w1 ⟨rfl, hb1⟩; dsimp only)
    have hT1 := hT.below hb1
    go_wp2_with (go_at_call 16; (with_reducible refine (HV.out _ hT1).mono ?_); rintro e w2 ⟨rfl, hb2⟩; dsimp only)
    have hT2 := hT1.below hb2
    go_wp2
    go_ret
    exact ⟨rfl, bthen hb1 hb2⟩
  | true =>
    have HV : Hid (∀ w, Tabs w → Calls Tryd.prog 16 #[.string s] w fun e w' => e = .returned (.bool true) ∧ Below w.heap.size w w') := Lib.hid fun w hT => hv ▸ valid_any s w (by omega) hT
    cases hv2 : vld p with
    | false =>
      have HU : Hid (∀ w, Tabs w → Calls Tryd.prog 16 #[.string p] w fun e w' => e = .returned (.bool false) ∧ Below w.heap.size w w') := Lib.hid fun w hT => hv2 ▸ valid_any p w (by omega) hT
      clear hv hv2 h
      go_enter Tryd.func7, Tryd.ntmps7
      go_wp2_with (go_at_call 21; (with_reducible refine (thello_any _ hT).mono ?_); rintro e w1 ⟨rfl, hb1⟩; dsimp only)
      have hT1 := hT.below hb1
      go_wp2_with (go_at_call 16; (with_reducible refine (HV.out _ hT1).mono ?_); rintro e w2 ⟨rfl, hb2⟩; dsimp only)
      have hT2 := hT1.below hb2
      go_wp2_with (go_at_call 16; (with_reducible refine (HU.out _ hT2).mono ?_); rintro e w3 ⟨rfl, hb3⟩; dsimp only)
      have hT3 := hT2.below hb3
      go_wp2
      go_ret
      exact ⟨rfl, bthen (bthen hb1 hb2) hb3⟩
    | true =>
      have HU : Hid (∀ w, Tabs w → Calls Tryd.prog 16 #[.string p] w fun e w' => e = .returned (.bool true) ∧ Below w.heap.size w w') := Lib.hid fun w hT => hv2 ▸ valid_any p w (by omega) hT
      have h' : n < 1 ∨ (¬ n < 1 ∧ 100 < n) ∨ (¬ n < 1 ∧ ¬ 100 < n ∧ (1000 : Int) < (s.size : Int) + (p.size : Int)) := by
        rcases h with h | h | h | h | h | h | h
        · exact absurd h hb
        · exact absurd h hb'
        · rw [hv] at h; cases h
        · rw [hv2] at h; cases h
        · omega
        · omega
        · omega
      clear hv hv2 h
      rcases h' with c1 | ⟨c1, c2⟩ | ⟨c1, c2, c3⟩
      all_goals
        go_enter Tryd.func7, Tryd.ntmps7
        go_wp2_with (go_at_call 21; (with_reducible refine (thello_any _ hT).mono ?_); rintro e w1 ⟨rfl, hb1⟩; dsimp only)
        have hT1 := hT.below hb1
        go_wp2_with (go_at_call 16; (with_reducible refine (HV.out _ hT1).mono ?_); rintro e w2 ⟨rfl, hb2⟩; dsimp only)
        have hT2 := hT1.below hb2
        go_wp2_with (go_at_call 16; (with_reducible refine (HU.out _ hT2).mono ?_); rintro e w3 ⟨rfl, hb3⟩; dsimp only)
        have hT3 := hT2.below hb3
        go_wp2
        go_ret
        exact ⟨rfl, bthen (bthen hb1 hb2) hb3⟩

set_option maxHeartbeats 4000000 in
set_option maxRecDepth 100000 in
theorem fnTabs_good (s p : ByteArray) (size : Nat) (w : World) (hT : Tabs w) (hv : vld s = true) (hv2 : vld p = true) (h1 : 1 ≤ size) (h2 : size ≤ 100) (h3 : s.size + p.size ≤ 1000) :
    Calls Tryd.prog 7 #[.string s, .string p, .int .i64 (size : Int)] w fun e w' => e = .returned (.bool true) ∧ Below w.heap.size w w' := by
  have hbz : ¬ (2147483647 : Int) < (s.size : Int) := by omega
  have hby : ¬ (2147483647 : Int) < (p.size : Int) := by omega
  have c1 : ¬ (size : Int) < 1 := by omega
  have c2 : ¬ (100 : Int) < (size : Int) := by omega
  have c3 : ¬ (1000 : Int) < (s.size : Int) + (p.size : Int) := by omega
  have HV : Hid (∀ w, Tabs w → Calls Tryd.prog 16 #[.string s] w fun e w' => e = .returned (.bool true) ∧ Below w.heap.size w w') := Lib.hid fun w hT => hv ▸ valid_any s w (by omega) hT
  have HU : Hid (∀ w, Tabs w → Calls Tryd.prog 16 #[.string p] w fun e w' => e = .returned (.bool true) ∧ Below w.heap.size w w') := Lib.hid fun w hT => hv2 ▸ valid_any p w (by omega) hT
  obtain ⟨l1, l2, l3⟩ := tabs_lines size s.data.toList p.data.toList (vld_ok6 hv).2 (vld_ok6 hv2).2
  have hlen : ∀ x : List UInt8, (expB size (segs x) 0).length ≤ 128 * x.length := fun x => by
    have := expP_length size (by omega) (segs x) 0 (segs_ne x)
    rwa [segs_flatten] at this
  obtain ⟨X, hX⟩ : ∃ X : ByteArray, ⟨(expB size (segs s.data.toList) 0).toArray⟩ = X := ⟨_, rfl⟩
  obtain ⟨Y, hY⟩ : ∃ Y : ByteArray, ⟨(expB size (segs p.data.toList) 0).toArray⟩ = Y := ⟨_, rfl⟩
  have hXl : X.data.toList = expB size (segs s.data.toList) 0 := by rw [← hX]
  have hYl : Y.data.toList = expB size (segs p.data.toList) 0 := by rw [← hY]
  have hXs : X.size ≤ 128000 := by rw [Lib.size_eq, hXl]; have := hlen s.data.toList; rw [← Lib.size_eq] at this; omega
  have hYs : Y.size ≤ 128000 := by rw [Lib.size_eq, hYl]; have := hlen p.data.toList; rw [← Lib.size_eq] at this; omega
  obtain ⟨Z, hZ⟩ : ∃ Z : ByteArray, (X ++ ⟨#[10]⟩) ++ Y = Z := ⟨_, rfl⟩
  have hZl : Z.data.toList = expB size (segs ((s.data.toList ++ [10]) ++ p.data.toList)) 0 := by rw [← hZ, l1, ← hXl, ← hYl]; simp
  have hZs : Z.size ≤ 256001 := by rw [← hZ, ByteArray.size_append, ByteArray.size_append]; show X.size + 1 + Y.size ≤ _; omega
  have HX : Hid (∀ w, Tabs w → Calls Tryd.prog 21 #[.string s, .int .i64 (size : Int)] w fun e w' => e = .returned (.tuple #[.string X, .bool true]) ∧ Below w.heap.size w w') := Lib.hid fun w hT => implTabs_good s size X w (by omega) h1 (by omega) hT hX
  have HY : Hid (∀ w, Tabs w → Calls Tryd.prog 21 #[.string p, .int .i64 (size : Int)] w fun e w' => e = .returned (.tuple #[.string Y, .bool true]) ∧ Below w.heap.size w w') := Lib.hid fun w hT => implTabs_good p size Y w (by omega) h1 (by omega) hT hY
  have HZ : Hid (∀ w, Tabs w → Calls Tryd.prog 21 #[.string ((s ++ ⟨#[10]⟩) ++ p), .int .i64 (size : Int)] w fun e w' => e = .returned (.tuple #[.string Z, .bool true]) ∧ Below w.heap.size w w') := Lib.hid fun w hT => implTabs_good _ size Z w (by rw [ByteArray.size_append, ByteArray.size_append]; show s.size + 1 + p.size ≤ _; omega) h1 (by omega) hT (by
    have e : ((s ++ ⟨#[10]⟩) ++ p : ByteArray).data.toList = (s.data.toList ++ [10]) ++ p.data.toList := by simp
    rw [e, ← hZl])
  have HQ : Hid (∀ w, Tabs w → Calls Tryd.prog 21 #[.string Z, .int .i64 (size : Int)] w fun e w' => e = .returned (.tuple #[.string Z, .bool true]) ∧ Below w.heap.size w w') := Lib.hid fun w hT => implTabs_good Z size Z w (by omega) h1 (by omega) hT (by
    rw [hZl, l3, ← hZl])
  have HH : Hid (∀ w, Calls Tryd.prog 22 #[.string Z, .int .u8 9] w fun e w' => e = .returned (.bool false) ∧ w' = w) := Lib.hid fun w => by
    have := has_no Z 9 w (by omega) (by rw [hZl]; exact l2)
    rwa [show (((9 : UInt8).toNat : Nat) : Int) = 9 from rfl] at this
  have hA : s.size + 1 ≤ 9223372036854775807 := by omega
  have hB : s.size + 1 + p.size ≤ 9223372036854775807 := by omega
  have hC : X.size + 1 ≤ 9223372036854775807 := by omega
  have hD : X.size + 1 + Y.size ≤ 9223372036854775807 := by omega
  have hEq : (Z.toList == (((X ++ ⟨#[10]⟩) ++ Y : ByteArray)).toList) = true := by rw [hZ]; exact beq_self_eq_true _
  clear hv hv2 l1 l2 l3 hlen hX hY hXl hYl hZl hZ
  go_enter Tryd.func7, Tryd.ntmps7
  go_wp2_with (go_at_call 21; (with_reducible refine (thello_any _ hT).mono ?_); rintro e w1 ⟨rfl, hb1⟩; dsimp only)
  have hT1 := hT.below hb1
  go_wp2_with (go_at_call 16; (with_reducible refine (HV.out _ hT1).mono ?_); rintro e w2 ⟨rfl, hb2⟩; dsimp only)
  have hT2 := hT1.below hb2
  go_wp2_with (go_at_call 16; (with_reducible refine (HU.out _ hT2).mono ?_); rintro e w3 ⟨rfl, hb3⟩; dsimp only)
  have hT3 := hT2.below hb3
  go_wp2_with (go_at_call 21; (with_reducible refine (HX.out _ hT3).mono ?_); rintro e w4 ⟨rfl, hb4⟩; dsimp only)
  have hT4 := hT3.below hb4
  go_wp2_with (go_at_call 21; (with_reducible refine (HY.out _ hT4).mono ?_); rintro e w5 ⟨rfl, hb5⟩; dsimp only)
  have hT5 := hT4.below hb5
  go_wp2_with (go_at_call 21; (with_reducible refine (HZ.out _ hT5).mono ?_); rintro e w6 ⟨rfl, hb6⟩; dsimp only)
  have hT6 := hT5.below hb6
  go_wp2_with (go_at_call 21; (with_reducible refine (HQ.out _ hT6).mono ?_); rintro e w7 ⟨rfl, hb7⟩; dsimp only)
  have hT7 := hT6.below hb7
  go_wp2_with (go_at_call 22; (with_reducible refine (HH.out _).mono ?_); rintro e w8 ⟨rfl, rfl⟩; dsimp only)
  go_wp2
  go_ret
  exact ⟨rfl, bthen (bthen (bthen (bthen (bthen (bthen hb1 hb2) hb3) hb4) hb5) hb6) hb7⟩

theorem fnExpandTabsLines_walk (s p : ByteArray) (n : Int) (w : World) (hs0 : s.size ≤ 140737488351232) (hp0 : p.size ≤ 140737488351232) (_h3 : (Lit.int .i64 n).wf = true) (hT : Tabs w) :
    Calls Tryd.prog 7 #[.string s, .string p, .int .i64 n] w fun e w' => e = .returned (.bool true) ∧ Below w.heap.size w w' := by
  by_cases h : 2147483647 < s.size ∨ 2147483647 < p.size ∨ vld s = false ∨ vld p = false ∨ n < 1 ∨ 100 < n ∨ 1000 < s.size + p.size
  · exact fnTabs_early s p n w hs0 hp0 hT h
  · have hv : vld s = true := by
      cases hv : vld s with
      | true => rfl
      | false => exact absurd (.inr (.inr (.inl hv))) h
    have hv2 : vld p = true := by
      cases hv : vld p with
      | true => rfl
      | false => exact absurd (.inr (.inr (.inr (.inl hv)))) h
    have e1 : ¬ n < 1 := fun k => h (.inr (.inr (.inr (.inr (.inl k)))))
    have e2 : ¬ 100 < n := fun k => h (.inr (.inr (.inr (.inr (.inr (.inl k))))))
    have e3 : ¬ 1000 < s.size + p.size := fun k => h (.inr (.inr (.inr (.inr (.inr (.inr k))))))
    obtain ⟨size, rfl⟩ : ∃ size : Nat, n = (size : Int) := ⟨n.toNat, by omega⟩
    exact fnTabs_good s p size w hT hv hv2 (by omega) (by omega) (by omega)
end Go.Proofs.YtdomnccokhhieaaDoor
