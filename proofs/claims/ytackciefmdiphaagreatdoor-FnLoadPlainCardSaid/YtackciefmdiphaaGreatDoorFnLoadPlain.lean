/- The law FnLoadPlain: without expansion the value of a key is its raw value; keys, raw values and comments are the same with it. -/
import Derived.Test.YtackciefmdiphaaGreatDoorWhole
import Derived.Test.YtackciefmdiphaaGreatDoorFew1
import Derived.Test.YtackciefmdiphaaGreatDoorExpI
set_option linter.unusedVariables false
namespace Go.Proofs.YtackciefmdiphaaGreatDoor
open Go.RowKit Plain Go.Maps

theorem com_len2 {p : PSt} (h : PBd 1000000 1000000 p) (k : ByteArray) : ((p.cf k).getD []).length ≤ 10000000 := by
  cases hc : p.cf k with
  | none => simp
  | some l => have := h.cn k l hc; simp; omega
theorem like_of2 {p : PSt} {f g : ByteArray → ByteArray} {i : Nat} {a b : PropD} (ha : (p.ks.map (dataOf p f))[i]? = some a) (hb : (p.ks.map (dataOf p g))[i]? = some b) : likeD a b := by
  rw [List.getElem?_map] at ha hb
  cases hk : p.ks[i]? with
  | none => rw [hk] at ha; cases ha
  | some k =>
    rw [hk] at ha hb
    simp at ha hb
    subst ha
    subst hb
    exact ⟨rfl, rfl, rfl⟩
/-- what a load with expansion tells -/
def expOf (o : Option PSt) (ek : ByteArray → Option ByteArray) : List PropD := match o with | none => [] | some p => p.ks.map (dataOf p (fun k => (ek k).getD ⟨#[]⟩))
theorem load_uniE {s : ByteArray} {w : World} (hs : s.size ≤ 100000) (hT : Tabs w) {o : Option PSt} (ho : parL (lexL (unbom s)) [] pst0 = o) (ek : ByteArray → Option ByteArray) (hek : ∀ p, o = some p → ExpAll p.D ek) :
    Calls Tryz.prog 13 #[.string s, .int .i64 1, .bool false] w fun e w' => Below w.heap.size w w' ∧ ∃ v ib, e = .returned (.tuple #[v, .bool ib]) ∧ (ib = true → o.isSome = true ∧ PRow w.heap.size v (expOf o ek) w') :=
  (loadProps_exp s w hs hT o ho ek hek).mono (by
    rintro e w' ⟨hb, h⟩
    cases o with
    | none => exact ⟨hb, _, false, h, fun h => by cases h⟩
    | some p =>
      rcases h with ⟨v, rfl, hr, _⟩ | ⟨rfl, _⟩
      · exact ⟨hb, v, true, rfl, fun _ => ⟨rfl, hr⟩⟩
      · exact ⟨hb, _, false, rfl, fun h => by cases h⟩)
set_option maxHeartbeats 8000000 in
set_option maxRecDepth 100000 in
theorem fnLoadPlain_walk (s : ByteArray) (w : World) (hs0 : s.size ≤ 140737488351232) (hT : Tabs w) :
    Calls Tryz.prog 4 #[.string s] w fun e w' => e = .returned (.bool true) ∧ Below w.heap.size w w' := by
  by_cases hbig : 2147483647 < s.size
  · have hz : (2147483647 : Int) < (s.size : Int) := by omega
    go_enter Tryz.func4, Tryz.ntmps4
    go_wp2
    go_ret
    exact ⟨rfl, Below.refl _ _⟩
  have hz : ¬ (2147483647 : Int) < (s.size : Int) := by omega
  have HLD := Lib.hid (loads_any w hT)
  have HT := Lib.hid hT
  obtain ⟨N, hN⟩ : ∃ N, s.size = N := ⟨_, rfl⟩
  have HN := Lib.hid hN
  have hN2 : N ≤ 2147483647 := by omega
  obtain ⟨fb, hfb⟩ : ∃ fb, decide (1 + (N : Int) ≤ 400) = fb := ⟨_, rfl⟩
  have HFB := Lib.hid hfb
  have HFW : Hid (∀ (y : World) (g : Nat), y.cell? ⟨g, 0, none⟩ = some (.string s) → Calls Tryz.prog 15 #[.slice (some ⟨g, 0, none⟩) 1 1] y fun e w' => e = .returned (.bool fb) ∧ w' = y) := Lib.hid (fun y g hc => hfb ▸ few1_any g 1 s y hc N hN hN2)
  obtain ⟨D, hD⟩ : ∃ D, c36 s.data.toList = D := ⟨_, rfl⟩
  have HD := Lib.hid hD
  have HDL : Hid (∀ y : World, Calls Tryz.prog 16 #[.string s] y fun e w' => e = .returned (.int .i64 (D : Int)) ∧ w' = y) := Lib.hid (fun y => hD ▸ dollars_any s y (by omega))
  rw [hN] at hz
  clear hT hbig hs0 hfb hD
  cases fb with
  | false =>
    go_enter Tryz.func4, Tryz.ntmps4
    go_wp2_with (first
      | (go_at_call 10; (with_reducible refine HLD.out.mono ?_); rintro e w1 ⟨rfl, hb1⟩; have HB1 := Lib.hid hb1; clear hb1; dsimp only)
      | (go_at_call 15; (with_reducible refine (HFW.out _ _ (by simp)).mono ?_); rintro e w3 ⟨rfl, rfl⟩; dsimp only)
      | (go_at_call 16; (with_reducible refine (HDL.out _).mono ?_); rintro e w3 ⟨rfl, rfl⟩; dsimp only))
    go_ret
    exact ⟨rfl, HB1.out.alloc HB1.out.size _⟩
  | true =>
  have hn4 : N ≤ 399 := by have := of_decide_eq_true HFB.out; omega
  by_cases hd8 : 8 < D
  · have hdz : (8 : Int) < (D : Int) := by omega
    go_enter Tryz.func4, Tryz.ntmps4
    go_wp2_with (first
      | (go_at_call 10; (with_reducible refine HLD.out.mono ?_); rintro e w1 ⟨rfl, hb1⟩; have HB1 := Lib.hid hb1; clear hb1; dsimp only)
      | (go_at_call 15; (with_reducible refine (HFW.out _ _ (by simp)).mono ?_); rintro e w3 ⟨rfl, rfl⟩; dsimp only)
      | (go_at_call 16; (with_reducible refine (HDL.out _).mono ?_); rintro e w3 ⟨rfl, rfl⟩; dsimp only))
    go_ret
    exact ⟨rfl, HB1.out.alloc HB1.out.size _⟩
  have hdz : ¬ (8 : Int) < (D : Int) := by omega
  obtain ⟨o, ho⟩ : ∃ o, parL (lexL (unbom s)) [] pst0 = o := ⟨_, rfl⟩
  have HO := Lib.hid ho
  have hs5 : s.size ≤ 100000 := by have := HN.out; omega
  have HBD : Hid (∀ p, o = some p → PBd 1000000 1000000 p) := Lib.hid (fun p hp => parL_small (unbom s) p (by have := unbom_size s; omega) (hp ▸ ho))
  have hvs : (∀ x ∈ valsOf s o, x.size ≤ 1000000) ∧ (valsOf s o).length ≤ 3000000 := by
    unfold valsOf
    have hit : ∀ x ∈ outI (lexL s), x.text.size ≤ 1000000 := fun x hx => by
      unfold outI at hx
      obtain ⟨y, hy, rfl⟩ := List.mem_map.1 hx
      have := lexL_text s y hy
      unfold outX
      split
      · exact Nat.zero_le _
      · omega
    refine ⟨fun x hx => ?_, ?_⟩
    · rcases List.mem_append.1 hx with h | h
      · obtain ⟨d, hd, rfl⟩ := List.mem_map.1 h
        cases o with
        | none => simp [propsOfO] at hd
        | some p =>
          obtain ⟨k, hk, rfl⟩ := List.mem_map.1 hd
          exact (HBD.out p rfl).vals k
      · unfold textsOf at h
        obtain ⟨y, hy, rfl⟩ := List.mem_map.1 h
        exact hit y (List.mem_filter.1 hy).1
    · rw [List.length_append, List.length_map]
      have h1 := texts_len (outI (lexL s))
      have h2 := lexN_len s (4 * s.size + 4) .before 0
      have h3 : (outI (lexL s)).length = (lexN s (4 * s.size + 4) .before 0).length := by unfold outI; rw [List.length_map]; rfl
      have h4 : (propsOfO o).length ≤ 1000000 := by
        cases o with
        | none => exact Nat.zero_le _
        | some p => have := (HBD.out p rfl).kn; simpa [propsOfO] using this
      omega
  obtain ⟨tb, htb⟩ : ∃ b, ((valsOf s o).all fun x => wh 0 x.data.toList) = b := ⟨_, rfl⟩
  have HTM : Hid (∀ y, Below w.heap.size w y → Calls Tryz.prog 17 #[.string s, .int .i64 1] y fun e w' => e = .returned (.bool tb) ∧ Below y.heap.size y w') := Lib.hid (fun y hy => htb ▸ tame_any s y hs5 (HT.out.below hy) o ho hvs.1 hvs.2)
  have HTB := Lib.hid htb
  clear hvs htb ho
  cases tb with
  | false =>
    go_enter Tryz.func4, Tryz.ntmps4
    go_wp2_with (first
      | (go_at_call 10; (with_reducible refine HLD.out.mono ?_); rintro e w1 ⟨rfl, hb1⟩; have HB1 := Lib.hid hb1; clear hb1; dsimp only)
      | (go_at_call 15; (with_reducible refine (HFW.out _ _ (by simp)).mono ?_); rintro e w3 ⟨rfl, rfl⟩; dsimp only)
      | (go_at_call 16; (with_reducible refine (HDL.out _).mono ?_); rintro e w3 ⟨rfl, rfl⟩; dsimp only)
      | (go_at_call 17; (with_reducible refine (HTM.out _ (HB1.out.alloc HB1.out.size _)).mono ?_); rintro e w3 ⟨rfl, hb3⟩; have HB3 : Hid (Below w.heap.size w w3) := Lib.hid (bthen (HB1.out.alloc HB1.out.size _) hb3); clear hb3; dsimp only))
    go_ret
    exact ⟨rfl, HB3.out⟩
  | true =>
  obtain ⟨ek, hek⟩ : ∃ ek, ∀ p, o = some p → ExpAll p.D ek := by
    cases o with
    | none => exact ⟨fun _ => none, fun p h => by cases h⟩
    | some p =>
      obtain ⟨ek, he⟩ := whole_ends s p (by have := HN.out; omega) (by have := HD.out; omega) HO.out (fun k hk => by
        have := List.all_eq_true.1 HTB.out (rawOf p.D k) (List.mem_append_left _ (List.mem_map.2 ⟨dataOf p (rawOf p.D) k, List.mem_map.2 ⟨k, hk, rfl⟩, rfl⟩))
        exact this)
      exact ⟨ek, fun q hq => by injection hq with hq; subst hq; exact he⟩
  have HLP : Hid (∀ y, Below w.heap.size w y → Calls Tryz.prog 13 #[.string s, .int .i64 1, .bool true] y fun e w' => Below y.heap.size y w' ∧ ∃ v, e = .returned (.tuple #[v, .bool o.isSome]) ∧ PRow y.heap.size v (propsOfO o) w') := Lib.hid (fun y hy => load_uni hs5 (HT.out.below hy) HO.out)
  have HLE : Hid (∀ y, Below w.heap.size w y → Calls Tryz.prog 13 #[.string s, .int .i64 1, .bool false] y fun e w' => Below y.heap.size y w' ∧ ∃ v ib, e = .returned (.tuple #[v, .bool ib]) ∧ (ib = true → o.isSome = true ∧ PRow y.heap.size v (expOf o ek) w')) := Lib.hid (fun y hy => load_uniE hs5 (HT.out.below hy) HO.out ek hek)
  have HEK := Lib.hid hek
  obtain ⟨n, hn⟩ : ∃ n, (propsOfO o).length = n := ⟨_, rfl⟩
  have hnb : n ≤ 1000000 := by
    rw [← hn]
    cases o with
    | none => exact Nat.zero_le _
    | some p => have := (HBD.out p rfl).kn; simpa [propsOfO] using this
  have HPN := Lib.hid hn
  have HEN : Hid ((expOf o ek).length = n) := Lib.hid (by
    rw [← hn]
    cases o with
    | none => rfl
    | some p => simp [expOf, propsOfO])
  have HLK : Hid (∀ (i : Nat) a b, (propsOfO o)[i]? = some a → (expOf o ek)[i]? = some b → likeD a b) := Lib.hid (fun i a b ha hb => by
    cases o with
    | none => simp [propsOfO] at ha
    | some p => exact like_of2 ha hb)
  have HCM : Hid (∀ d ∈ propsOfO o, d.com.length ≤ 10000000) := Lib.hid (fun d hd => by
    cases o with
    | none => simp [propsOfO] at hd
    | some p =>
      obtain ⟨k, hk, rfl⟩ := List.mem_map.1 hd
      exact com_len2 (HBD.out p rfl) k)
  have HVR : Hid (∀ d ∈ propsOfO o, d.val = d.raw) := Lib.hid (fun d hd => by
    cases o with
    | none => simp [propsOfO] at hd
    | some p =>
      obtain ⟨k, hk, rfl⟩ := List.mem_map.1 hd
      rfl)
  obtain ⟨ob, hob⟩ : ∃ b, o.isSome = b := ⟨_, rfl⟩
  obtain ⟨PL, hPL⟩ : ∃ l, propsOfO o = l := ⟨_, rfl⟩
  obtain ⟨EL, hEL⟩ : ∃ l, expOf o ek = l := ⟨_, rfl⟩
  rw [hob, hPL] at HLP
  rw [hob, hEL] at HLE
  rw [hPL] at HPN HLK HCM HVR
  rw [hEL] at HEN HLK
  clear hob hPL hEL hn hek HO HBD HTB HEK hs5
  go_enter Tryz.func4, Tryz.ntmps4
  go_wp2_with (first
    | (go_at_call 10; (with_reducible refine HLD.out.mono ?_); rintro e w1 ⟨rfl, hb1⟩; have HB1 := Lib.hid hb1; clear hb1; dsimp only)
    | (go_at_call 15; (with_reducible refine (HFW.out _ _ (by simp)).mono ?_); rintro e w3 ⟨rfl, rfl⟩; dsimp only)
    | (go_at_call 16; (with_reducible refine (HDL.out _).mono ?_); rintro e w3 ⟨rfl, rfl⟩; dsimp only)
    | (go_at_call 17; (with_reducible refine (HTM.out _ (HB1.out.alloc HB1.out.size _)).mono ?_); rintro e w3 ⟨rfl, hb3⟩; have HB3 : Hid (Below w.heap.size w w3) := Lib.hid (bthen (HB1.out.alloc HB1.out.size _) hb3); clear hb3; dsimp only)
    | (go_at_call 13; (with_reducible refine (HLP.out _ HB3.out).mono ?_); rintro e w4 ⟨hb4, v4, rfl, hr4⟩; obtain ⟨us, hu1, hu2, hu3⟩ := id hr4; rw [HPN.out] at hu1 hu2; obtain ⟨a4, cp4, rfl⟩ := slq_any hu2; have HR4 := Lib.hid hr4; have HU1 := Lib.hid hu1; have HU2 := Lib.hid hu2; have HU3 := Lib.hid hu3; have HB4 : Hid (Below w.heap.size w w4) := Lib.hid (bthen HB3.out hb4); clear hb4 hr4 hu1 hu2 hu3; dsimp only)
    | (go_at_call 13; (with_reducible refine (HLE.out _ HB4.out).mono ?_); rintro e w5 ⟨hb5, v5, ib, rfl, hr5⟩; have HR5 := Lib.hid hr5; have HB45 := Lib.hid hb5; have HB5 : Hid (Below w.heap.size w w5) := Lib.hid (bthen HB4.out hb5); clear hb5 hr5; dsimp only))
  go_loopg [38] n (fun g' v38 wr => ∃ i : Nat, v38 = .int .i64 (i : Int) ∧ i ≤ n ∧ g' = n - i ∧ Hid (Below w5.heap.size w5 wr))
  case atStart => exact ⟨0, rfl, Nat.zero_le _, rfl, Lib.hid (Below.refl _ _)⟩
  case round =>
    obtain ⟨i, rfl, hin, rfl, HB⟩ := hrel
    by_cases hlt : i < n
    · have hiz : (i : Int) < (n : Int) := by omega
      obtain ⟨g1, rfl⟩ := slq_pos HU2.out (by omega)
      obtain ⟨d, hd⟩ : ∃ d, PL[i]? = some d := ⟨_, List.getElem?_eq_getElem (by have := HPN.out; omega)⟩
      obtain ⟨u, hu⟩ : ∃ u, us[i]? = some u := ⟨_, List.getElem?_eq_getElem (by have := HU1.out; omega)⟩
      obtain ⟨ua, uc, rfl⟩ := slq_any (HU3.out i _ u hd hu)
      obtain ⟨un, hun⟩ : ∃ m, d.com.length = m := ⟨_, rfl⟩
      rw [hun] at hu
      obtain ⟨z0, z1, z2, z3⟩ := prow_cells (row_keep HU2.out (w' := wr) (fun g hg => ((HB.out.block g (Nat.lt_of_lt_of_le (row_lt HU2.out hg).2 HB45.out.size)).trans (HB45.out.block g (row_lt HU2.out hg).2)))) hlt hd hu
      rw [HVR.out d (List.mem_of_getElem? hd)] at z2
      obtain ⟨KK, hKK⟩ : ∃ k, d.key = k := ⟨_, rfl⟩
      obtain ⟨R, hRR⟩ : ∃ k, d.raw = k := ⟨_, rfl⟩
      rw [hKK] at z0
      rw [hRR] at z1 z2
      clear hd hu hun hKK hRR
      go_wp2
      have HB2 : Hid (Below w5.heap.size w5 (wr.alloc (.cells #[.string KK, .string R, .string R, .slice ua un uc] 31))) := Lib.hid (HB.out.alloc HB.out.size _)
      go_roundg (n - (i + 1))
      case measure => omega
      case rel => exact ⟨i + 1, by go_num, by omega, rfl, HB2⟩
    · have hiz : ¬ (i : Int) < (n : Int) := by omega
      have HBW : Hid (Below w.heap.size w wr) := Lib.hid (bthen HB5.out HB.out)
      cases ib with
      | false =>
        go_wp2
        go_ret
        exact ⟨rfl, HBW.out⟩
      | true =>
        obtain ⟨rfl, hr5⟩ := HR5.out rfl
        have HEQ := Lib.hid (eqProps_same _ _ _ _ PL EL wr n HPN.out HEN.out (by omega) HCM.out HLK.out ((HR4.out.below HB45.out).below HB.out) (hr5.below HB.out))
        clear hr5
        go_wp2_with (go_at_call 18; (with_reducible refine HEQ.out.mono ?_); rintro e w6 ⟨rfl, hb6⟩; have HB6 : Hid (Below w.heap.size w w6) := Lib.hid (bthen HBW.out hb6); clear hb6; dsimp only)
        go_ret
        exact ⟨rfl, HB6.out⟩
end Go.Proofs.YtackciefmdiphaaGreatDoor
