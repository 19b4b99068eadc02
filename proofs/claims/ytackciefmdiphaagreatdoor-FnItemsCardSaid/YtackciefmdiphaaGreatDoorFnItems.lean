/- The law FnItems: the items of a text rise by their places, the last one alone is the end or an error, and they tell the properties. -/
import Derived.Test.YtackciefmdiphaaGreatDoorFew1
import Derived.Test.YtackciefmdiphaaGreatDoorLexF
import Derived.Deep.QuietTactic
set_option linter.unusedVariables false
namespace Go.Proofs.YtackciefmdiphaaGreatDoor
open Go.RowKit Plain Go.Maps

theorem flat4 : ∀ (L : List (List Value)), (∀ x ∈ L, x.length = 4) → ∀ (i : Nat) (x : List Value), L[i]? = some x → ∀ c, c < 4 → L.flatten[i * 4 + c]? = x[c]? := by
  intro L
  induction L with
  | nil => intro h i x hx; simp at hx
  | cons a L ih =>
    intro h i x hx c hc
    have ha := h a List.mem_cons_self
    match i, hx with
    | 0, hx =>
      simp at hx
      subst hx
      rw [List.flatten_cons, Nat.zero_mul, Nat.zero_add, List.getElem?_append_left (by omega)]
    | i + 1, hx =>
      have hx' : L[i]? = some x := by simpa using hx
      rw [List.flatten_cons, List.getElem?_append_right (by omega), ha, show (i + 1) * 4 + c - 4 = i * 4 + c by omega]
      exact ih (fun y hy => h y (List.mem_cons_of_mem _ hy)) i x hx' c hc
theorem lastF_snoc (q : ByteArray × ByteArray) (k : ByteArray) : ∀ (l : List (ByteArray × ByteArray)) (a : Option ByteArray), lastF (l ++ [q]) k a = if q.1 = k then some q.2 else lastF l k a := by
  intro l
  induction l with
  | nil => intro a; rfl
  | cons x l ih => intro a; exact ih _
theorem slq_any {w : World} {B n sz : Nat} {e : TypeId} {v : Value} {xs : List Value} (h : w.ownsRow B e sz v n xs) : ∃ a cap, v = .slice a n cap := by
  rcases h.2 with ⟨rfl, rfl⟩ | ⟨g, cap, cur, hv, _⟩
  · exact ⟨none, 0, rfl⟩
  · exact ⟨_, _, hv⟩
set_option maxHeartbeats 8000000 in
set_option maxRecDepth 100000 in
theorem fnItems_walk (s : ByteArray) (w : World) (hs0 : s.size ≤ 140737488351232) (hT : Tabs w) :
    Calls Tryz.prog 6 #[.string s] w fun e w' => e = .returned (.bool true) ∧ Below w.heap.size w w' := by
  by_cases hbig : 2147483647 < s.size
  · have hz : (2147483647 : Int) < (s.size : Int) := by omega
    go_enter Tryz.func6, Tryz.ntmps6
    go_wp2
    go_ret
    exact ⟨rfl, Below.refl _ _⟩
  have hz : ¬ (2147483647 : Int) < (s.size : Int) := by omega
  have HAB := Lib.hid (items_any ⟨#[97, 61, 98]⟩ w (by decide) hT)
  have HT := Lib.hid hT
  obtain ⟨bb, hbb, hbeg⟩ := begins_bom s (by omega)
  have HBB := Lib.hid hbb
  have HBG := Lib.hid hbeg
  clear hbeg hbb
  have HVL : Hid (∀ y : World, Below w.heap.size w y → Calls Tryz.prog 22 #[.string s] y fun e w' => e = .returned (.bool (vld s)) ∧ Below y.heap.size y w') := Lib.hid (fun y hy => valid_any s y (by omega) (HT.out.below hy))
  have HIT : Hid (∀ y : World, s.size ≤ 100000 → Below w.heap.size w y → Calls Tryz.prog 21 #[.string s] y (ItPost s y)) := Lib.hid (fun y h hy => items_any s y h (HT.out.below hy))
  obtain ⟨vb, hvb⟩ : ∃ b, vld s = b := ⟨_, rfl⟩
  rw [hvb] at HVL
  obtain ⟨N, hN⟩ : ∃ N, s.size = N := ⟨_, rfl⟩
  have HN := Lib.hid hN
  have hN2 : N ≤ 2147483647 := by omega
  rw [hN] at hz
  clear hvb hT hbig hs0
  obtain ⟨fb, hfb⟩ : ∃ fb, decide (1 + (N : Int) ≤ 400) = fb := ⟨_, rfl⟩
  have HFB := Lib.hid hfb
  have HFW : Hid (∀ (y : World) (g : Nat), y.cell? ⟨g, 0, none⟩ = some (.string s) → Calls Tryz.prog 15 #[.slice (some ⟨g, 0, none⟩) 1 1] y fun e w' => e = .returned (.bool fb) ∧ w' = y) := Lib.hid (fun y g hc => hfb ▸ few1_any g 1 s y hc N hN hN2)
  clear hfb
  by_cases hgo : fb = true ∧ vb = true ∧ bb = false
  · obtain ⟨rfl, rfl, rfl⟩ := hgo
    have HUB := Lib.hid (unbom_no (HBB.out rfl))
    clear HBB
    have hn4 : N ≤ 399 := by have := of_decide_eq_true HFB.out; omega
    go_enter Tryz.func6, Tryz.ntmps6
    go_wp2_with (first
      | (go_at_call 21; (with_reducible refine HAB.out.mono ?_); rintro e w1 ⟨v, rfl, hrow, hb1⟩; rw [lexL_ab] at hrow; change w1.ownsRow w.heap.size 46 3 v 3 [.int .i64 2, .int .i64 0, .string ⟨#[97]⟩, .int .i64 3, .int .i64 2, .string ⟨#[98]⟩, .int .i64 1, .int .i64 3, .string ⟨#[]⟩] at hrow; obtain ⟨g, cap, rfl⟩ := row_slq hrow (by decide); have x0 : w1.cell? ⟨g, 0, none⟩ = some (.int .i64 2) := hrow.cellAt 0 (by decide); have x2 : w1.cell? ⟨g, 2, none⟩ = some (.string ⟨#[97]⟩) := hrow.cellAt 2 (by decide); have x3 : w1.cell? ⟨g, 3, none⟩ = some (.int .i64 3) := hrow.cellAt 3 (by decide); have x5 : w1.cell? ⟨g, 5, none⟩ = some (.string ⟨#[98]⟩) := hrow.cellAt 5 (by decide); have x6 : w1.cell? ⟨g, 6, none⟩ = some (.int .i64 1) := hrow.cellAt 6 (by decide); have HB1 := Lib.hid hb1; clear hrow hb1; dsimp only)
      | (go_at_call 15; (with_reducible refine (HFW.out _ _ (by simp)).mono ?_); rintro e w2 ⟨rfl, rfl⟩; dsimp only)
      | (go_at_call 22; (with_reducible refine (HVL.out _ (HB1.out.alloc HB1.out.size _)).mono ?_); rintro e w3 ⟨rfl, hb3⟩; have HB3 : Hid (Below w.heap.size w w3) := Lib.hid (bthen (HB1.out.alloc HB1.out.size _) hb3); clear hb3; dsimp only)
      | (go_at_call 23; (with_reducible refine (HBG.out _).mono ?_); rintro e w4 ⟨rfl, rfl⟩; dsimp only)
      | (go_at_call 21; (with_reducible refine (HIT.out _ (by have := HN.out; omega) HB3.out).mono ?_); rintro e w5 ⟨v, rfl, hrow, hb5⟩; have hpos : 0 < (lexL s).length := List.length_pos_iff.2 (fun e => by have := wfI_lexL s; rw [e] at this; exact this); obtain ⟨G, CAP, rfl⟩ := row_slq hrow hpos; have HROW := Lib.hid hrow; have HB5 := Lib.hid (bthen HB3.out hb5); have HB35 := Lib.hid hb5; clear hrow hb5; dsimp only))
    obtain ⟨nL, hnL⟩ : ∃ n, (lexL s).length = n := ⟨_, rfl⟩
    have hnb : nL ≤ 1000000 := by
      have h1 := lexN_len s (4 * s.size + 4) .before 0
      have h2 := HN.out
      have h3 : nL = (lexN s (4 * s.size + 4) .before 0).length := hnL.symm
      omega
    rw [hnL] at HROW ⊢
    have HNL := Lib.hid hnL
    have HAT : Hid (∀ i x, (outI (lexL s))[i]? = some x → x.kind ≤ 4 ∧ (x.kind < 2 ↔ i + 1 = nL) ∧ x.pos ≤ N ∧ ∀ j y, i = j + 1 → (outI (lexL s))[j]? = some y → y.pos ≤ x.pos) := Lib.hid (fun i x hx => by
      have h1 : ∃ z, (lexL s)[i]? = some z ∧ outX z = x := by
        have : (outI (lexL s))[i]? = ((lexL s)[i]?).map outX := by unfold outI; rw [List.getElem?_map]
        rw [this] at hx
        exact Option.map_eq_some_iff.1 hx
      obtain ⟨z, hz, rfl⟩ := h1
      have h2 := wfI_at (wfI_lexL s) i z hz
      have hk : (outX z).kind = z.kind := by
        unfold outX
        split
        · rename_i h; exact h.symm
        · rfl
      have h3 := rise_at (rise_out (rise_lexN s (4 * s.size + 4) .before 0 (Nat.zero_le _))) i (outX z) hx
      rw [hk]
      have h4 := HN.out
      exact ⟨h2.1, by rw [h2.2, hnL], by omega, h3.2⟩)
    clear hnL x0 x2 x3 x5 x6
    go_loopg [76] nL (fun g' v76 wr => ∃ i : Nat, v76 = .int .i64 (i : Int) ∧ i ≤ nL ∧ g' = nL - i ∧ Hid (Below w5.heap.size w5 wr))
    case atStart => exact ⟨0, rfl, Nat.zero_le _, rfl, Lib.hid (Below.refl _ _)⟩
    case round =>
      obtain ⟨i, rfl, hin, rfl, HB⟩ := hrel
      by_cases hlt : i < nL
      · have hiz : (i : Int) < (nL : Int) := by omega
        obtain ⟨x, hx⟩ : ∃ x, (outI (lexL s))[i]? = some x := ⟨_, List.getElem?_eq_getElem (by have := HNL.out; unfold outI; simp; omega)⟩
        have hrw := row_keep HROW.out (fun g hg => HB.out.block g (row_lt HROW.out hg).2)
        have x0 : wr.cell? ⟨G, i * 3, none⟩ = some (.int .i64 (x.kind : Int)) := (hrw.cellAt (i * 3) (by omega)).trans (by rw [Nat.mul_comm]; exact (itemsC_at _ i x hx).1)
        have x1 : wr.cell? ⟨G, i * 3 + 1, none⟩ = some (.int .i64 (x.pos : Int)) := (hrw.cellAt (i * 3 + 1) (by omega)).trans (by rw [Nat.mul_comm]; exact (itemsC_at _ i x hx).2.1)
        have x2 : wr.cell? ⟨G, i * 3 + 2, none⟩ = some (.string x.text) := (hrw.cellAt (i * 3 + 2) (by omega)).trans (by rw [Nat.mul_comm]; exact (itemsC_at _ i x hx).2.2)
        have HRW := Lib.hid hrw
        obtain ⟨a1, a2, a3, a4⟩ := HAT.out i x hx
        obtain ⟨K, hK⟩ : ∃ K : Int, (x.kind : Int) = K := ⟨_, rfl⟩
        obtain ⟨P, hP⟩ : ∃ P : Int, (x.pos : Int) = P := ⟨_, rfl⟩
        obtain ⟨T, hTx⟩ : ∃ T, x.text = T := ⟨_, rfl⟩
        rw [hK] at x0
        rw [hP] at x1
        rw [hTx] at x2
        have k0 : decide (K < 0) = false := decide_eq_false (by omega)
        have k1 : decide ((4 : Int) < K) = false := decide_eq_false (by omega)
        have p0 : decide (P < 0) = false := decide_eq_false (by omega)
        have p1 : decide ((N : Int) < P) = false := decide_eq_false (by omega)
        have hwn : IntKind.i64.wrap ((nL : Int) - 1) = (nL : Int) - 1 := IntWalk.i64_in _ (by omega)
        have HBs := HB.out.size
        clear hrw
        have A1 := Lib.hid a2
        have A4 := Lib.hid a4
        have HX := Lib.hid hx
        have HKK := Lib.hid hK
        have HPP := Lib.hid hP
        clear hx hK hP hTx a1 a2 a3 a4
        go_wp2
        have hki : (decide (K < 2) = true ∧ ((i : Int) == (nL : Int) - 1) = true) ∨ (decide (K < 2) = false ∧ ((i : Int) == (nL : Int) - 1) = false) := by
          by_cases hl : i + 1 = nL
          · left
            exact ⟨decide_eq_true (by have := A1.out.2 hl; have := HKK.out; omega), by rw [beq_iff_eq]; omega⟩
          · right
            exact ⟨decide_eq_false (fun h => hl (A1.out.1 (by have := HKK.out; omega))), by rw [beq_eq_false_iff_ne]; omega⟩
        have hfin : ∀ (a : Act) (w' : World), True := fun _ _ => trivial
        by_cases hi0 : i = 0
        · have hig : decide (0 < i) = false := decide_eq_false (by omega)
          clear hi0 hfin
          rcases hki with ⟨k2, hib⟩ | ⟨k2, hib⟩
          all_goals (
            go_quiet (fail)
            have HB2 : Hid (Below w5.heap.size w5 ((wr.alloc (.cells #[.int .i64 K, .int .i64 P, .string T] 46)).drewN nq)) := Lib.hid ⟨HB.out.os, HB.out.tape, HB.out.output, Nat.le_trans HB.out.size (by simp [World.drewN]), fun k hk => (HB.out.alloc HB.out.size _).block k hk⟩
            go_wp2
            go_roundg (nL - (i + 1))
            case measure => omega
            case rel => exact ⟨i + 1, by go_num, by omega, rfl, HB2⟩)
        · have hig : decide (0 < i) = true := decide_eq_true (by omega)
          obtain ⟨j, hj⟩ : ∃ j, i = j + 1 := ⟨i - 1, by omega⟩
          have hwi : IntKind.i64.wrap ((i : Int) - 1) = (j : Int) := by
            rw [show (i : Int) - 1 = (j : Int) by omega]
            exact IntWalk.i64_in _ (by omega)
          have hjz : (j : Int) < (nL : Int) := by omega
          have hj0 : (0 : Int) ≤ (j : Int) := by omega
          obtain ⟨y, hy⟩ : ∃ y, (outI (lexL s))[j]? = some y := ⟨_, List.getElem?_eq_getElem (by have := HNL.out; unfold outI; simp; omega)⟩
          have hyx := A4.out j y hj hy
          obtain ⟨Y, hY⟩ : ∃ Y : Int, (y.pos : Int) = Y := ⟨_, rfl⟩
          have y1 : wr.cell? ⟨G, j * 3 + 1, none⟩ = some (.int .i64 Y) := (HRW.out.cellAt (j * 3 + 1) (by omega)).trans (by rw [Nat.mul_comm, ← hY]; exact (itemsC_at _ j y hy).2.1)
          have y2 : ∀ o, (wr.alloc o).cell? ⟨G, j * 3 + 1, none⟩ = some (.int .i64 Y) := fun o => (((Below.refl wr.heap.size wr).alloc (Nat.le_refl _) o).cell (Lib.lt_of_cell y1)).trans y1
          have py : decide (P < Y) = false := decide_eq_false (by have := HPP.out; omega)
          clear hi0 hfin hj hy hyx hY y1
          rcases hki with ⟨k2, hib⟩ | ⟨k2, hib⟩
          all_goals (
            go_quiet (fail)
            have HB2 : Hid (Below w5.heap.size w5 ((wr.alloc (.cells #[.int .i64 K, .int .i64 P, .string T] 46)).drewN nq)) := Lib.hid ⟨HB.out.os, HB.out.tape, HB.out.output, Nat.le_trans HB.out.size (by simp [World.drewN]), fun k hk => (HB.out.alloc HB.out.size _).block k hk⟩
            go_wp2
            go_roundg (nL - (i + 1))
            case measure => omega
            case rel => exact ⟨i + 1, by go_num, by omega, rfl, HB2⟩)
      · have hiz : ¬ (i : Int) < (nL : Int) := by omega
        obtain rfl : i = nL := by omega
        clear hiz hin hlt
        have HIP : Hid (∀ o, ipL (outI (lexL s)) = o → Calls Tryz.prog 24 #[.slice (some ⟨G, 0, none⟩) i CAP] wr (IpPost o wr)) := Lib.hid (fun o ho => itemProps_any (outI (lexL s)) _ G CAP i wr (row_keep HROW.out (fun g hg => HB.out.block g (row_lt HROW.out hg).2)) (by unfold outI; rw [List.length_map]; exact HNL.out) (by omega) o ho)
        have HLP : Hid (∀ y, Below w.heap.size w y → ∀ o, parL (lexL s) [] pst0 = o → Calls Tryz.prog 13 #[.string s, .int .i64 1, .bool true] y (LpPost o y)) := Lib.hid (fun y hy o ho => loadProps_plain s y (by have := HN.out; omega) (HT.out.below hy) o (by rw [HUB.out]; exact ho))
        have HBr : Hid (Below w.heap.size w wr) := Lib.hid (HB5.out.trans (HB.out.mono HB5.out.size))
        cases hip : ipL (outI (lexL s)) with
        | none =>
          have hpl : parL (lexL s) [] pst0 = none := parL_err _ _ _ _ (Nat.le_refl _) (wfI_lexL s) hip
          have HI := Lib.hid (HIP.out none hip)
          have HL : Hid (∀ y, Below w.heap.size w y → Calls Tryz.prog 13 #[.string s, .int .i64 1, .bool true] y (LpPost none y)) := Lib.hid (fun y hy => HLP.out y hy none hpl)
          clear hip hpl
          go_wp2_with (first
            | (go_at_call 24; (with_reducible refine HI.out.mono ?_); rintro e w6 ⟨hb6, rfl⟩; have HB6 := Lib.hid (bthen HBr.out hb6); clear hb6; dsimp only)
            | (go_at_call 13; (with_reducible refine (HL.out _ HB6.out).mono ?_); rintro e w7 ⟨hb7, rfl⟩; have HB7 := Lib.hid (bthen HB6.out hb7); clear hb7; dsimp only))
          go_ret
          exact ⟨rfl, HB7.out⟩
        | some ps =>
          have HI := Lib.hid (HIP.out (some ps) hip)
          have hpsl : ps.length ≤ i := by
            have := ipL_len _ _ hip
            unfold outI at this
            rw [List.length_map] at this
            have := HNL.out
            omega
          cases hpl : parL (lexL s) [] pst0 with
          | none =>
            have HL : Hid (∀ y, Below w.heap.size w y → Calls Tryz.prog 13 #[.string s, .int .i64 1, .bool true] y (LpPost none y)) := Lib.hid (fun y hy => HLP.out y hy none hpl)
            clear hip hpl
            go_wp2_with (first
              | (go_at_call 24; (with_reducible refine HI.out.mono ?_); rintro e w6 ⟨hb6, v6, rfl, hr6⟩; have HB6 := Lib.hid (bthen HBr.out hb6); clear hb6 hr6; dsimp only)
              | (go_at_call 13; (with_reducible refine (HL.out _ HB6.out).mono ?_); rintro e w7 ⟨hb7, rfl⟩; have HB7 := Lib.hid (bthen HB6.out hb7); clear hb7; dsimp only))
            go_ret
            exact ⟨rfl, HB7.out⟩
          | some p =>
            have HL : Hid (∀ y, Below w.heap.size w y → Calls Tryz.prog 13 #[.string s, .int .i64 1, .bool true] y (LpPost (some p) y)) := Lib.hid (fun y hy => HLP.out y hy (some p) hpl)
            obtain ⟨hlaw1, hlaw2⟩ := items_law s p ps hpl hip
            have HLAW := Lib.hid hlaw1
            clear hip hpl hlaw1
            go_wp2_with (first
              | (go_at_call 24; (with_reducible refine HI.out.mono ?_); rintro e w6 ⟨hb6, v6, rfl, hr6⟩; have HB6 := Lib.hid (bthen HBr.out hb6); obtain ⟨ad6, cp6, rfl⟩ := slq_any hr6; have HR6 := Lib.hid hr6; clear hb6 hr6; dsimp only)
              | (go_at_call 13; (with_reducible refine (HL.out _ HB6.out).mono ?_); rintro e w7 ⟨hb7, v7, rfl, hr7⟩; have HB7 := Lib.hid (bthen HB6.out hb7); have HB67 := Lib.hid hb7; obtain ⟨us, hu1, hu2, hu3⟩ := hr7; rw [List.length_map] at hu1 hu2; have HU1 := Lib.hid hu1; obtain ⟨ad, cp7, rfl⟩ := slq_any hu2; have HU2 := Lib.hid hu2; have HU3 := Lib.hid hu3; clear hb7 hu1 hu2 hu3; dsimp only))
            obtain ⟨M, hM⟩ : ∃ M, p.ks.length = M := ⟨_, rfl⟩
            obtain ⟨R, hR⟩ : ∃ R, ps.length = R := ⟨_, rfl⟩
            rw [hM] at HU1 HU2 hlaw2 ⊢
            rw [hR] at HR6 hlaw2 hpsl ⊢
            have HM := Lib.hid hM
            have HRl := Lib.hid hR
            clear hM hR HI HL HIP HLP
            have hR7 : w7.ownsRow wr.heap.size 31 4 (.slice ad6 R cp6) R (propsC ps) := row_keep HR6.out (fun g hg => HB67.out.block g (row_lt HR6.out hg).2)
            have HR7 := Lib.hid hR7
            clear hR7 HR6
            go_loopg [151] M (fun g' v151 wr => ∃ i : Nat, v151 = .int .i64 (i : Int) ∧ i ≤ M ∧ g' = M - i ∧ Hid (Below w7.heap.size w7 wr))
            case atStart => exact ⟨0, rfl, Nat.zero_le _, rfl, Lib.hid (Below.refl _ _)⟩
            case round =>
              obtain ⟨q, rfl, hqn, rfl, HBz⟩ := hrel
              by_cases hlt : q < M
              · have hqz : (q : Int) < (M : Int) := by omega
                obtain ⟨g7, rfl⟩ : ∃ g7, ad = some ⟨g7, 0, none⟩ := by
                  rcases HU2.out.2 with ⟨_, h0⟩ | ⟨g, cap, cur, hv, _⟩
                  · omega
                  · injection hv with hv; exact ⟨g, hv⟩
                obtain ⟨k, hk⟩ : ∃ k, p.ks[q]? = some k := ⟨_, List.getElem?_eq_getElem (by have := HM.out; omega)⟩
                obtain ⟨u, hu⟩ : ∃ u, us[q]? = some u := ⟨_, List.getElem?_eq_getElem (by have := HU1.out; omega)⟩
                obtain ⟨ua, uc, rfl⟩ := slq_any (HU3.out q (dataOf p (rawOf p.D) k) u (by rw [List.getElem?_map, hk]; rfl) hu)
                obtain ⟨un, hun⟩ : ∃ n, (dataOf p (rawOf p.D) k).com.length = n := ⟨_, rfl⟩
                rw [hun] at hu
                have hzip : (List.zipWith propV (p.ks.map (dataOf p (rawOf p.D))) us)[q]? = some [.string k, .string (rawOf p.D k), .string (rawOf p.D k), .slice ua un uc] := by
                  rw [List.getElem?_zipWith, List.getElem?_map, hk, hu]
                  rfl
                have hlen4 : ∀ x ∈ List.zipWith propV (p.ks.map (dataOf p (rawOf p.D))) us, x.length = 4 := by
                  intro x hx
                  obtain ⟨n, hn⟩ := List.getElem?_of_mem hx
                  rw [List.getElem?_zipWith] at hn
                  cases ha : (p.ks.map (dataOf p (rawOf p.D)))[n]? <;> cases hb : us[n]? <;> rw [ha, hb] at hn <;> simp at hn
                  rw [← hn]
                  rfl
                have hrow := row_keep HU2.out (fun g hg => HBz.out.block g (row_lt HU2.out hg).2)
                have z0 : wr.cell? ⟨g7, q * 4, none⟩ = some (.string k) := (hrow.cellAt (q * 4) (by omega)).trans (flat4 _ hlen4 q _ hzip 0 (by omega))
                have z1 : wr.cell? ⟨g7, q * 4 + 1, none⟩ = some (.string (rawOf p.D k)) := (hrow.cellAt (q * 4 + 1) (by omega)).trans (flat4 _ hlen4 q _ hzip 1 (by omega))
                have z2 : wr.cell? ⟨g7, q * 4 + 2, none⟩ = some (.string (rawOf p.D k)) := (hrow.cellAt (q * 4 + 2) (by omega)).trans (flat4 _ hlen4 q _ hzip 2 (by omega))
                have z3 : wr.cell? ⟨g7, q * 4 + 3, none⟩ = some (.slice ua un uc) := (hrow.cellAt (q * 4 + 3) (by omega)).trans (flat4 _ hlen4 q _ hzip 3 (by omega))
                have hlaw := HLAW.out k (List.mem_of_getElem? hk)
                obtain ⟨RW, hRW⟩ : ∃ R, rawOf p.D k = R := ⟨_, rfl⟩
                rw [hRW] at z1 z2 hlaw
                have HLW := Lib.hid hlaw
                obtain ⟨b12, hb12⟩ : ∃ b, wr.heap.size = b := ⟨_, rfl⟩
                obtain ⟨W0, hW0⟩ : ∃ W, wr.alloc (.cells #[.string k, .string RW, .string RW, .slice ua un uc] 31) = W := ⟨_, rfl⟩
                have hnb0 : W0.heap[b12]? = some (.cells #[.string k, .string RW, .string RW, .slice ua un uc] 31 (0, 0)) := by rw [← hW0, ← hb12]; exact heap_alloc_new wr _
                have hs0 : W0.heap.size = b12 + 1 := by rw [← hW0, ← hb12]; simp
                have HB0 : Hid (Below w7.heap.size w7 W0) := Lib.hid (hW0 ▸ HBz.out.alloc HBz.out.size _)
                have HNB := Lib.hid hnb0
                have HW0 := Lib.hid hW0
                have HS0 := Lib.hid hs0
                clear hrow hzip hlen4 hk hu hun hlaw hRW hnb0 hs0 hW0
                go_wp2_with (rw [HW0.out])
                (try rw [hb12])
                have HBB12 := Lib.hid hb12
                clear z0 z1 z2 z3 hb12 HW0
                go_loopg [13, 14, 157] R (fun g' v13 v14 v157 wr => ∃ (j : Nat) (lst : ByteArray) (fnd : Bool), v157 = .int .i64 (j : Int) ∧ j ≤ R ∧ g' = R - j ∧ v13 = .string lst ∧ v14 = .bool fnd ∧ Hid (lastF (ps.take j) k none = if fnd = true then some lst else none) ∧ Hid (Below W0.heap.size W0 wr))
                case atStart => exact ⟨0, ⟨#[]⟩, false, rfl, Nat.zero_le _, rfl, rfl, rfl, Lib.hid rfl, Lib.hid (Below.refl _ _)⟩
                case round =>
                  obtain ⟨j, lst, fnd, rfl, hjn, rfl, rfl, rfl, HLF, HBy⟩ := hrel
                  have hbl : b12 < W0.heap.size := by have := HS0.out; omega
                  have hnb1 : wr.heap[b12]? = some (.cells #[.string k, .string RW, .string RW, .slice ua un uc] 31 (0, 0)) := (HBy.out.block b12 hbl).trans HNB.out
                  have hHBs := HBy.out.size
                  by_cases hlt2 : j < R
                  · have hjz : (j : Int) < (R : Int) := by omega
                    obtain ⟨g6, rfl⟩ : ∃ g6, ad6 = some ⟨g6, 0, none⟩ := by
                      rcases HR7.out.2 with ⟨_, h0⟩ | ⟨g, cap, cur, hv, _⟩
                      · omega
                      · injection hv with hv; exact ⟨g, hv⟩
                    obtain ⟨x, hx⟩ : ∃ x, ps[j]? = some x := ⟨_, List.getElem?_eq_getElem (by have := HRl.out; omega)⟩
                    have hlen4 : ∀ y ∈ ps.map propC, y.length = 4 := by
                      intro y hy
                      obtain ⟨_, _, rfl⟩ := List.mem_map.1 hy
                      rfl
                    have hzip : (ps.map propC)[j]? = some (propC x) := by rw [List.getElem?_map, hx]; rfl
                    have hrow := row_keep HR7.out (fun g hg => (HB0.out.trans (HBy.out.mono HB0.out.size)).block g (row_lt HR7.out hg).2)
                    have y0 : wr.cell? ⟨g6, j * 4, none⟩ = some (.string x.1) := (hrow.cellAt (j * 4) (by omega)).trans (flat4 _ hlen4 j _ hzip 0 (by omega))
                    have y1 : wr.cell? ⟨g6, j * 4 + 1, none⟩ = some (.string x.2) := (hrow.cellAt (j * 4 + 1) (by omega)).trans (flat4 _ hlen4 j _ hzip 1 (by omega))
                    have y2 : wr.cell? ⟨g6, j * 4 + 2, none⟩ = some (.string ⟨#[]⟩) := (hrow.cellAt (j * 4 + 2) (by omega)).trans (flat4 _ hlen4 j _ hzip 2 (by omega))
                    have y3 : wr.cell? ⟨g6, j * 4 + 3, none⟩ = some (.slice none 0 0) := (hrow.cellAt (j * 4 + 3) (by omega)).trans (flat4 _ hlen4 j _ hzip 3 (by omega))
                    have hst : lastF (ps.take (j + 1)) k none = if x.1 = k then some x.2 else lastF (ps.take j) k none := by
                      rw [List.take_add_one, hx]
                      exact lastF_snoc x k _ _
                    obtain ⟨X1, hX1⟩ : ∃ X, x.1 = X := ⟨_, rfl⟩
                    obtain ⟨X2, hX2⟩ : ∃ X, x.2 = X := ⟨_, rfl⟩
                    rw [hX1] at y0 hst
                    rw [hX2] at y1 hst
                    have w0 : ∀ o, (wr.alloc o).cell? ⟨b12, 0, none⟩ = some (.string k) := fun o => by
                      have h9 := (Below.heap_alloc wr o b12 (by omega)).trans hnb1
                      simp [World.cell?, h9]
                    have HST := Lib.hid hst
                    clear hx hzip hlen4 hrow hst hX1 hX2 hnb1
                    obtain ⟨eqb, heqb⟩ : ∃ b, (X1.toList == k.toList) = b := ⟨_, rfl⟩
                    have HEQ := Lib.hid heqb
                    have HB3' : Hid (∀ o, Below W0.heap.size W0 (wr.alloc o)) := Lib.hid (fun o => HBy.out.alloc HBy.out.size o)
                    cases eqb with
                    | true =>
                      have hxe : X1 = k := by
                        have := eq_of_beq HEQ.out
                        rw [ByteArray.toList_eq, ByteArray.toList_eq] at this
                        exact ByteArray.ext (Array.toList_inj.1 this)
                      have HLF2 : Hid (lastF (ps.take (j + 1)) k none = if true = true then some X2 else none) := Lib.hid (by rw [HST.out, if_pos hxe]; rfl)
                      clear hxe
                      go_wp2
                      have HBn := Lib.hid (HB3'.out (.cells #[.string X1, .string X2, .string ⟨#[]⟩, .slice none 0 0] 31))
                      go_roundg (R - (j + 1))
                      case measure => omega
                      case rel => exact ⟨j + 1, X2, true, by go_num, by omega, rfl, rfl, rfl, HLF2, HBn⟩
                    | false =>
                      have hxe : ¬ X1 = k := by
                        intro e
                        have := HEQ.out
                        rw [e] at this
                        simp at this
                      have HLF2 : Hid (lastF (ps.take (j + 1)) k none = if fnd = true then some lst else none) := Lib.hid (by rw [HST.out, if_neg hxe]; exact HLF.out)
                      clear hxe
                      go_wp2
                      have HBn := Lib.hid (HB3'.out (.cells #[.string X1, .string X2, .string ⟨#[]⟩, .slice none 0 0] 31))
                      go_roundg (R - (j + 1))
                      case measure => omega
                      case rel => exact ⟨j + 1, lst, fnd, by go_num, by omega, rfl, rfl, rfl, HLF2, HBn⟩
                  · have hjz : ¬ (j : Int) < (R : Int) := by omega
                    obtain rfl : j = R := by omega
                    have hend := HLF.out
                    rw [List.take_of_length_le (Nat.le_of_eq HRl.out), HLW.out] at hend
                    obtain ⟨rfl, rfl⟩ : fnd = true ∧ RW = lst := by
                      cases fnd with
                      | false => simp at hend
                      | true => simp at hend; exact ⟨rfl, hend⟩
                    have w1 : wr.cell? ⟨b12, 1, none⟩ = some (.string RW) := by simp [World.cell?, hnb1]
                    have HBn : Hid (Below w7.heap.size w7 wr) := Lib.hid (HB0.out.trans (HBy.out.mono HB0.out.size))
                    clear hend hnb1
                    go_wp2
                    go_roundg (M - (q + 1))
                    case measure => omega
                    case rel => exact ⟨q + 1, by go_num, by omega, rfl, HBn⟩
              · have hqz : ¬ (q : Int) < (M : Int) := by omega
                have hle : (M : Int) ≤ (R : Int) := by omega
                go_wp2
                go_ret
                exact ⟨rfl, bthen HB7.out HBz.out⟩
  · cases fb with
    | false =>
      clear hgo HBG HVL HIT HBB HT
      go_enter Tryz.func6, Tryz.ntmps6
      go_wp2_with (first
        | (go_at_call 21; (with_reducible refine HAB.out.mono ?_); rintro e w1 ⟨v, rfl, hrow, hb1⟩; rw [lexL_ab] at hrow; change w1.ownsRow w.heap.size 46 3 v 3 [.int .i64 2, .int .i64 0, .string ⟨#[97]⟩, .int .i64 3, .int .i64 2, .string ⟨#[98]⟩, .int .i64 1, .int .i64 3, .string ⟨#[]⟩] at hrow; obtain ⟨g, cap, rfl⟩ := row_slq hrow (by decide); have x0 : w1.cell? ⟨g, 0, none⟩ = some (.int .i64 2) := hrow.cellAt 0 (by decide); have x2 : w1.cell? ⟨g, 2, none⟩ = some (.string ⟨#[97]⟩) := hrow.cellAt 2 (by decide); have x3 : w1.cell? ⟨g, 3, none⟩ = some (.int .i64 3) := hrow.cellAt 3 (by decide); have x5 : w1.cell? ⟨g, 5, none⟩ = some (.string ⟨#[98]⟩) := hrow.cellAt 5 (by decide); have x6 : w1.cell? ⟨g, 6, none⟩ = some (.int .i64 1) := hrow.cellAt 6 (by decide); have HB1 := Lib.hid hb1; clear hrow hb1; dsimp only)
        | (go_at_call 15; (with_reducible refine (HFW.out _ _ (by simp)).mono ?_); rintro e w2 ⟨rfl, rfl⟩; dsimp only)
        | (go_at_call 22; (with_reducible refine (HVL.out _ (HB1.out.alloc HB1.out.size _)).mono ?_); rintro e w3 ⟨rfl, hb3⟩; have HB3 : Hid (Below w.heap.size w w3) := Lib.hid (bthen (HB1.out.alloc HB1.out.size _) hb3); clear hb3; dsimp only)
        | (go_at_call 23; (with_reducible refine (HBG.out _).mono ?_); rintro e w4 ⟨rfl, rfl⟩; dsimp only))
      go_ret
      exact ⟨rfl, HB1.out.alloc HB1.out.size _⟩
    | true =>
      cases vb with
      | false =>
        clear hgo HBG HIT HBB HT
        go_enter Tryz.func6, Tryz.ntmps6
        go_wp2_with (first
          | (go_at_call 21; (with_reducible refine HAB.out.mono ?_); rintro e w1 ⟨v, rfl, hrow, hb1⟩; rw [lexL_ab] at hrow; change w1.ownsRow w.heap.size 46 3 v 3 [.int .i64 2, .int .i64 0, .string ⟨#[97]⟩, .int .i64 3, .int .i64 2, .string ⟨#[98]⟩, .int .i64 1, .int .i64 3, .string ⟨#[]⟩] at hrow; obtain ⟨g, cap, rfl⟩ := row_slq hrow (by decide); have x0 : w1.cell? ⟨g, 0, none⟩ = some (.int .i64 2) := hrow.cellAt 0 (by decide); have x2 : w1.cell? ⟨g, 2, none⟩ = some (.string ⟨#[97]⟩) := hrow.cellAt 2 (by decide); have x3 : w1.cell? ⟨g, 3, none⟩ = some (.int .i64 3) := hrow.cellAt 3 (by decide); have x5 : w1.cell? ⟨g, 5, none⟩ = some (.string ⟨#[98]⟩) := hrow.cellAt 5 (by decide); have x6 : w1.cell? ⟨g, 6, none⟩ = some (.int .i64 1) := hrow.cellAt 6 (by decide); have HB1 := Lib.hid hb1; clear hrow hb1; dsimp only)
          | (go_at_call 15; (with_reducible refine (HFW.out _ _ (by simp)).mono ?_); rintro e w2 ⟨rfl, rfl⟩; dsimp only)
          | (go_at_call 22; (with_reducible refine (HVL.out _ (HB1.out.alloc HB1.out.size _)).mono ?_); rintro e w3 ⟨rfl, hb3⟩; have HB3 : Hid (Below w.heap.size w w3) := Lib.hid (bthen (HB1.out.alloc HB1.out.size _) hb3); clear hb3; dsimp only)
          | (go_at_call 23; (with_reducible refine (HBG.out _).mono ?_); rintro e w4 ⟨rfl, rfl⟩; dsimp only))
        go_ret
        exact ⟨rfl, HB3.out⟩
      | true =>
        cases bb with
        | false => exact absurd ⟨rfl, rfl, rfl⟩ hgo
        | true =>
          clear hgo HIT HBB HT
          go_enter Tryz.func6, Tryz.ntmps6
          go_wp2_with (first
            | (go_at_call 21; (with_reducible refine HAB.out.mono ?_); rintro e w1 ⟨v, rfl, hrow, hb1⟩; rw [lexL_ab] at hrow; change w1.ownsRow w.heap.size 46 3 v 3 [.int .i64 2, .int .i64 0, .string ⟨#[97]⟩, .int .i64 3, .int .i64 2, .string ⟨#[98]⟩, .int .i64 1, .int .i64 3, .string ⟨#[]⟩] at hrow; obtain ⟨g, cap, rfl⟩ := row_slq hrow (by decide); have x0 : w1.cell? ⟨g, 0, none⟩ = some (.int .i64 2) := hrow.cellAt 0 (by decide); have x2 : w1.cell? ⟨g, 2, none⟩ = some (.string ⟨#[97]⟩) := hrow.cellAt 2 (by decide); have x3 : w1.cell? ⟨g, 3, none⟩ = some (.int .i64 3) := hrow.cellAt 3 (by decide); have x5 : w1.cell? ⟨g, 5, none⟩ = some (.string ⟨#[98]⟩) := hrow.cellAt 5 (by decide); have x6 : w1.cell? ⟨g, 6, none⟩ = some (.int .i64 1) := hrow.cellAt 6 (by decide); have HB1 := Lib.hid hb1; clear hrow hb1; dsimp only)
            | (go_at_call 15; (with_reducible refine (HFW.out _ _ (by simp)).mono ?_); rintro e w2 ⟨rfl, rfl⟩; dsimp only)
            | (go_at_call 22; (with_reducible refine (HVL.out _ (HB1.out.alloc HB1.out.size _)).mono ?_); rintro e w3 ⟨rfl, hb3⟩; have HB3 : Hid (Below w.heap.size w w3) := Lib.hid (bthen (HB1.out.alloc HB1.out.size _) hb3); clear hb3; dsimp only)
            | (go_at_call 23; (with_reducible refine (HBG.out _).mono ?_); rintro e w4 ⟨rfl, rfl⟩; dsimp only))
          go_ret
          exact ⟨rfl, HB3.out⟩
end Go.Proofs.YtackciefmdiphaaGreatDoor
