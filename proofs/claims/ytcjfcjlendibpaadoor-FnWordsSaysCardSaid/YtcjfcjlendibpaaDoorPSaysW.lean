/- The walk of spec.Words. -/
import Derived.Test.YtcjfcjlendibpaaDoorPSaysP
import Derived.Test.YtcjfcjlendibpaaDoorPSaysWf
set_option linter.unusedVariables false
namespace Go.Proofs.YtcjfcjlendibpaaDoor
open Go.RowKit Plain

/-- what spec.Words answers -/
def SWPost (R : SA) (w0 : World) (e : Ending) (w' : World) : Prop :=
  Below w0.heap.size w0 w' ∧
    match R with
    | .opn => e = .returned (.tuple #[.slice none 0 0, .int .i64 2])
    | .no => e = .returned (.tuple #[.slice none 0 0, .int .i64 0])
    | .yes l => ∃ vo, e = .returned (.tuple #[vo, .int .i64 1]) ∧ w'.ownsRow w0.heap.size 9 1 vo l.length (l.map strV)
theorem digit_at (C : Nat) (z : Int) (w : World) (b : Bool) (hz : z = (C : Int)) (hb : (decide (48 ≤ C) && decide (C ≤ 57)) = b) :
    Calls Tryd.prog 34 #[.int .u8 z] w fun e w' => e = .returned (.bool b) ∧ Below w.heap.size w w' := by
  subst hz
  refine (PFnWordsSays.spec_digit.calls (C : Int) b w ?_).mono fun e w' ⟨he, hd⟩ => ⟨he, hd.below⟩
  rw [← hb]
  unfold PFnWordsSays.spec_digit.f
  by_cases h : 48 ≤ C
  · rw [if_pos (by omega), decide_eq_true h, Bool.true_and]
    congr 1
    rw [decide_eq_decide]
    omega
  · rw [if_neg (by omega), decide_eq_false h, Bool.false_and]
def MPost (v : Value) (B g : Nat) (q : SP) (w : World) (e : Ending) (w' : World) : Prop := e = .returned v ∧ IsP B g q w' ∧ Below B w w'
theorem pend_at (B g : Nat) (p : SP) (w : World) (h : IsP B g p w) (ho : p.out.length ≤ 1000) (hBw : B ≤ w.heap.size) :
    Calls Tryd.prog 33 #[.pointer (some ⟨g, 0, none⟩)] w (MPost (.tuple #[]) B g p.end w) := pend_any B g p w h ho hBw
theorem padd_at (B g : Nat) (p : SP) (c : UInt8) (z : Int) (hz : z = (c.toNat : Int)) (w : World) (h : IsP B g p w) (hw : p.word.length ≤ 1000) (hBw : B ≤ w.heap.size) :
    Calls Tryd.prog 31 #[.pointer (some ⟨g, 0, none⟩), .int .u8 z] w (MPost (.tuple #[]) B g (p.add c) w) := padd_any B g p c z hz w h hw hBw
theorem pquote_at (B g : Nat) (p : SP) (c : UInt8) (z : Int) (hz : z = (c.toNat : Int)) (w : World) (h : IsP B g p w) (hBw : B ≤ w.heap.size) (b : Bool) (q : SP) (hb : (quoteR c p).isSome = b) (hq : (quoteR c p).getD p = q) :
    Calls Tryd.prog 32 #[.pointer (some ⟨g, 0, none⟩), .int .u8 z] w (MPost (.bool b) B g q w) := by
  subst hb hq
  exact pquote_any B g p c z hz w h hBw
theorem end_len (p : SP) : p.end.out.length ≤ p.out.length + 1 ∧ p.end.word = [] := by
  unfold SP.end
  refine ⟨?_, rfl⟩
  dsimp only
  split <;> simp
set_option maxHeartbeats 8000000 in
set_option maxRecDepth 100000 in
theorem swords_at (s : ByteArray) (env cmt : Bool) (hs : s.size ≤ 400) : ∃ R : SA, (R = .opn ∨ (Lib.validD s.data.toList = true ∧ (∀ c ∈ s.data.toList, clearB env cmt c.toNat) ∧ srun s.data.toList sinit = R)) ∧
    ∀ w : World, Calls Tryd.prog 23 #[.string s, .bool env, .bool cmt] w (SWPost R w) := by
  obtain ⟨b, hun, hcl⟩ := un_at s env cmt (by omega)
  have HU := Lib.hid hun
  clear hun
  cases b with
  | true =>
    refine ⟨.opn, .inl rfl, fun w => ?_⟩
    clear hcl
    go_enter Tryd.func23, Tryd.ntmps23
    go_wp2_with (go_at_call 30; (with_reducible refine (HU.out _).mono ?_); rintro e w1 ⟨rfl, hb1⟩; dsimp only)
    go_ret2
    exact ⟨hb1, rfl⟩
  | false =>
    obtain ⟨hv, hc⟩ := hcl rfl
    obtain ⟨R, hR⟩ : ∃ R, srun s.data.toList sinit = R := ⟨_, rfl⟩
    refine ⟨R, .inr ⟨hv, hc, hR⟩, fun w => ?_⟩
    have HR := Lib.hid hR
    clear hcl hv hc hR
    obtain ⟨m, hm⟩ : ∃ m, s.size = m := ⟨_, rfl⟩
    have hml : s.data.toList.length = m := by rw [← Lib.size_eq]; exact hm
    have HML := Lib.hid hml
    have hsz : (s.size : Int) = (m : Int) := by omega
    rw [hm] at hs
    clear hm hml
    obtain ⟨B, hB⟩ : ∃ B, w.heap.size = B := ⟨_, rfl⟩
    have HBB := Lib.hid hB
    clear hB
    go_enter Tryd.func23, Tryd.ntmps23
    go_wp2_with (go_at_call 30; (with_reducible refine (HU.out _).mono ?_))
    rintro e w1 ⟨rfl, hb1⟩
    dsimp only
    have hip : IsP B w1.heap.size sinit (w1.alloc (.cells #[.slice none 0 0, .string ⟨#[]⟩, .bool false, .bool false, .bool false] 62)) := by
      refine ⟨by rw [← HBB.out]; exact hb1.size, .slice none 0 0, heap_alloc_new _ _, World.ownsRow_nil _ _ _ _⟩
    have hbw : Below B w (w1.alloc (.cells #[.slice none 0 0, .string ⟨#[]⟩, .bool false, .bool false, .bool false] 62)) := by
      have h0 := hb1.size
      have h1 := hb1
      rw [HBB.out] at h0 h1
      exact h1.alloc h0 _
    obtain ⟨g, hg⟩ : ∃ g, w1.heap.size = g := ⟨_, rfl⟩
    have HIP := Lib.hid hip
    have HBW := Lib.hid hbw
    have HG := Lib.hid hg
    clear hip hbw hb1 hg
    go_wp2_with fail
    rw [HG.out]
    have hip := HIP.out
    have hbw := HBW.out
    rw [HG.out] at hip
    go_loopg [9] m (fun gh vi wr => ∃ (j : Nat) (p : SP), vi = .int .i64 j ∧ j ≤ m ∧ gh = m - j ∧ Hid (srun (s.data.toList.drop j) p = R) ∧ Hid (IsP B g p wr) ∧ p.word.length ≤ j ∧ p.out.length ≤ j ∧ Hid (Below B w wr))
    case atStart => exact ⟨0, sinit, rfl, Nat.zero_le _, rfl, HR, Lib.hid hip, Nat.le_refl _, Nat.le_refl _, Lib.hid hbw⟩
    case round =>
      clear hip hbw HR HIP HBW
      obtain ⟨j, p, rfl, hjm, rfl, HRR, HP, hwl, hol, HBQ⟩ := hrel
      by_cases hjl : j < m
      · have hjz : (j : Int) < (m : Int) := by omega
        have hjX : j < s.data.toList.length := by rw [HML.out]; exact hjl
        have hdr : s.data.toList.drop j = s.data.toList[j] :: s.data.toList.drop (j + 1) := List.drop_eq_getElem_cons hjX
        obtain ⟨ch, hch⟩ : ∃ ch, s.data.toList[j] = ch := ⟨_, rfl⟩
        rw [hch] at hdr
        obtain ⟨C, hC⟩ : ∃ C : Nat, ch.toNat = C := ⟨_, rfl⟩
        have hidx : ∀ h : (j : Int).toNat < s.size, ((s[(j : Int).toNat]'h).toNat : Int) = (C : Int) := fun h => by rw [← hC, ← hch]; rfl
        have hidx2 : ∀ h : j < s.size, ((s[j]'h).toNat : Int) = (C : Int) := fun h => hidx h
        have hC256 : C < 256 := by have := ch.toNat_lt; omega
        have hR := HRR.out
        rw [hdr] at hR
        have HR := Lib.hid hR
        have HCC := Lib.hid hC
        have hBq : B ≤ wr.heap.size := by have := HBQ.out.size; rw [← HBB.out]; exact this
        obtain ⟨_, vo, h1, h2⟩ := HP.out
        have c3 : wr.cell? ⟨g, 3, none⟩ = some (.bool p.single) := by simp [World.cell?, h1]
        obtain ⟨ps, hps⟩ : ∃ ps, p.single = ps := ⟨_, rfl⟩
        rw [hps] at c3
        have HPS := Lib.hid hps
        clear h1 h2 hR hdr hch hC hjX HRR hps
        by_cases k92 : C = 92 ∧ ps = false
        · obtain ⟨rfl, rfl⟩ := k92
          have hR := HR.out
          have e92 : ch = 92 := UInt8.toNat_inj.1 HCC.out
          rw [e92, srun_bs _ _ HPS.out] at hR
          by_cases hlast : j + 1 = m
          · have hlz : (j : Int) + 1 = (m : Int) := by omega
            rw [List.drop_eq_nil_of_le (by rw [HML.out]; omega)] at hR
            obtain rfl : SA.no = R := hR
            go_wp2_with fail
            go_ret2
            exact ⟨by rw [HBB.out]; exact HBQ.out, rfl⟩
          · have hj1 : j + 1 < s.data.toList.length := by rw [HML.out]; omega
            obtain ⟨J, hJ⟩ : ∃ J, j + 1 = J := ⟨_, rfl⟩
            have hJz : (j : Int) + 1 = (J : Int) := by omega
            have hJm : J < m := by omega
            have hJmz : (J : Int) < (m : Int) := by omega
            have hJne : ((J : Int) == (m : Int)) = false := by rw [beq_eq_false_iff_ne]; omega
            rw [List.drop_eq_getElem_cons hj1] at hR
            simp only [hJ] at hR hj1
            obtain ⟨dh, hdh⟩ : ∃ dh, s.data.toList[J] = dh := ⟨_, rfl⟩
            rw [hdh] at hR
            obtain ⟨D, hD⟩ : ∃ D : Nat, dh.toNat = D := ⟨_, rfl⟩
            have hjdx : ∀ h : (J : Int).toNat < s.size, ((s[(J : Int).toNat]'h).toNat : Int) = (D : Int) := fun h => by rw [← hD, ← hdh]; rfl
            have hjdx2 : ∀ h : J < s.size, ((s[J]'h).toNat : Int) = (D : Int) := fun h => hjdx h
            have hR2 : (if D = 116 ∨ D = 110 then SA.opn else srun (s.data.toList.drop (J + 1)) (p.add dh)) = R := by rw [← hD]; exact hR
            have HAD := Lib.hid (padd_at B g p dh (D : Int) (by rw [hD]) wr HP.out (by omega) hBq)
            have HR2 := Lib.hid hR2
            have HJ := Lib.hid hJ
            clear hR hR2 hdh hD hj1 hlast hJ
            by_cases d1 : D = 116
            · have hR := HR2.out
              rw [if_pos (.inl d1)] at hR
              obtain rfl : SA.opn = R := hR
              subst d1
              go_wp2_with fail
              go_ret2
              exact ⟨by rw [HBB.out]; exact HBQ.out, rfl⟩
            have d1z : ((D : Int) == 116) = false := by rw [beq_eq_false_iff_ne]; omega
            by_cases d2 : D = 110
            · have hR := HR2.out
              rw [if_pos (.inr d2)] at hR
              obtain rfl : SA.opn = R := hR
              subst d2
              clear d1 d1z
              go_wp2_with fail
              go_ret2
              exact ⟨by rw [HBB.out]; exact HBQ.out, rfl⟩
            have d2z : ((D : Int) == 110) = false := by rw [beq_eq_false_iff_ne]; omega
            have hR := HR2.out
            rw [if_neg (by omega)] at hR
            have HR3 := Lib.hid hR
            clear hR d1 d2
            go_wp2_with (go_at_call 31; (with_reducible refine HAD.out.mono ?_))
            intro e w4 hp
            obtain ⟨rfl, hp4, hb4⟩ := hp
            dsimp only
            have HP4 := Lib.hid hp4
            have HB4 := Lib.hid (HBQ.out.trans hb4)
            clear hp4 hb4 c3
            go_wp2_with fail
            go_roundg (m - (J + 1))
            case measure => have := HJ.out; omega
            case rel => exact ⟨J + 1, p.add dh, by go_num, by omega, rfl, HR3, HP4, by have := HJ.out; simp [SP.add]; omega, by have := HJ.out; simp [SP.add]; omega, HB4⟩
        · have hR := HR.out
          rw [srun_one ch _ p (by rw [HCC.out, HPS.out]; exact k92)] at hR
          have k92b : ((C : Int) == 92 && !ps) = false := by
            cases ps with
            | true => simp
            | false =>
              have : C ≠ 92 := fun e => k92 ⟨e, rfl⟩
              simp; omega
          obtain ⟨q, hq⟩ : ∃ q, (quoteR ch p) = q := ⟨_, rfl⟩
          cases q with
          | some q =>
            have HQ0 := Lib.hid (fun (z : Int) (hz : z = (ch.toNat : Int)) => pquote_at B g p ch z hz wr HP.out hBq true q (by rw [hq]; rfl) (by rw [hq]; rfl))
            have hso : sone ch p = .inl q := by
              unfold quoteR at hq
              unfold sone
              split at hq
              · rw [if_pos (by assumption)]; exact congrArg Sum.inl (Option.some.inj hq)
              · rw [if_neg (by assumption)]
                split at hq
                · rw [if_pos (by assumption)]; exact congrArg Sum.inl (Option.some.inj hq)
                · cases hq
            have hql : q.word = p.word ∧ q.out = p.out := by
              unfold quoteR at hq
              split at hq
              · cases hq; exact ⟨rfl, rfl⟩
              · split at hq
                · cases hq; exact ⟨rfl, rfl⟩
                · cases hq
            rw [hso] at hR
            have HR3 := Lib.hid hR
            have HQL := Lib.hid hql
            clear hR hso hql hq
            by_cases e92 : C = 92
            · have : ps = true := by cases ps with | true => rfl | false => exact absurd ⟨e92, rfl⟩ k92
              subst e92 this
              have HQ := Lib.hid (HQ0.out 92 (by rw [HCC.out]; rfl))
              clear k92 k92b
              go_wp2_with (go_at_call 32; (with_reducible refine HQ.out.mono ?_))
              intro e w4 hp
              obtain ⟨rfl, hp4, hb4⟩ := hp
              dsimp only
              have HP4 := Lib.hid hp4
              have HB4 := Lib.hid (HBQ.out.trans hb4)
              clear hp4 hb4 c3
              go_wp2_with fail
              go_roundg (m - (j + 1))
              case measure => omega
              case rel => exact ⟨j + 1, q, by go_num, by omega, rfl, HR3, HP4, by rw [HQL.out.1]; omega, by rw [HQL.out.2]; omega, HB4⟩
            · have e92z : ((C : Int) == 92) = false := by rw [beq_eq_false_iff_ne]; omega
              have HQ := Lib.hid (HQ0.out (C : Int) (by rw [HCC.out]))
              clear k92 k92b e92
              go_wp2_with (go_at_call 32; (with_reducible refine HQ.out.mono ?_))
              intro e w4 hp
              obtain ⟨rfl, hp4, hb4⟩ := hp
              dsimp only
              have HP4 := Lib.hid hp4
              have HB4 := Lib.hid (HBQ.out.trans hb4)
              clear hp4 hb4 c3
              go_wp2_with fail
              go_roundg (m - (j + 1))
              case measure => omega
              case rel => exact ⟨j + 1, q, by go_num, by omega, rfl, HR3, HP4, by rw [HQL.out.1]; omega, by rw [HQL.out.2]; omega, HB4⟩
          | none =>
            have HQ0 := Lib.hid (fun (z : Int) (hz : z = (ch.toNat : Int)) => pquote_at B g p ch z hz wr HP.out hBq false p (by rw [hq]; rfl) (by rw [hq]; rfl))
            obtain ⟨pt, hpt⟩ : ∃ pt, p.twin = pt := ⟨_, rfl⟩
            have HPT := Lib.hid hpt
            have hn : ¬ (ch.toNat = 39 ∧ p.twin = false) ∧ ¬ (ch.toNat = 34 ∧ p.single = false) := by
              unfold quoteR at hq
              split at hq
              · cases hq
              · split at hq
                · cases hq
                · exact ⟨by assumption, by assumption⟩
            have HNN := Lib.hid hn
            have HRR := Lib.hid hR
            clear hq hn hR hpt
            by_cases e92 : C = 92
            · have : ps = true := by cases ps with | true => rfl | false => exact absurd ⟨e92, rfl⟩ k92
              subst e92 this
              have HQ := Lib.hid (HQ0.out 92 (by rw [HCC.out]; rfl))
              have hso : sone ch p = .inl (p.add ch) := by unfold sone; rw [if_neg HNN.out.1, if_neg HNN.out.2, if_pos (by rw [HPS.out]; rfl)]
              have hR := HRR.out
              rw [hso] at hR
              have HR3 := Lib.hid hR
              clear k92 k92b hso hR
              go_wp2_with (go_at_call 32; (with_reducible refine HQ.out.mono ?_))
              intro e w4 hp
              obtain ⟨rfl, hp4, hb4⟩ := hp
              dsimp only
              have hB4 : B ≤ w4.heap.size := Nat.le_trans hBq hb4.size
              obtain ⟨_, vo4, h41, h42⟩ := hp4
              have c43 : w4.cell? ⟨g, 3, none⟩ = some (.bool p.single) := by simp [World.cell?, h41]
              have c44 : w4.cell? ⟨g, 4, none⟩ = some (.bool p.twin) := by simp [World.cell?, h41]
              have c41 : w4.cell? ⟨g, 1, none⟩ = some (.string ⟨p.word.toArray⟩) := by simp [World.cell?, h41]
              rw [HPS.out] at c43
              rw [HPT.out] at c44
              have HP4 := Lib.hid (show IsP B g p w4 from ⟨by assumption, vo4, h41, h42⟩)
              have HB4 := Lib.hid (HBQ.out.trans hb4)
              clear h41 h42 hb4 c3
              have HAD := Lib.hid (padd_at B g p ch 92 (by rw [HCC.out]; rfl) w4 HP4.out (by omega) hB4)
              go_wp2_with (go_at_call 31; (with_reducible refine HAD.out.mono ?_))
              intro e w5 hp
              obtain ⟨rfl, hp5, hb5⟩ := hp
              dsimp only
              have HP5 := Lib.hid hp5
              have HB5 := Lib.hid (HB4.out.trans hb5)
              clear hp5 hb5 c43 c44 c41
              go_wp2_with fail
              go_roundg (m - (j + 1))
              case measure => omega
              case rel => exact ⟨j + 1, p.add ch, by go_num, by omega, rfl, HR3, HP5, by simp [SP.add]; omega, by simp [SP.add]; omega, HB5⟩
            have e92z : ((C : Int) == 92) = false := by rw [beq_eq_false_iff_ne]; omega
            have HQ := Lib.hid (HQ0.out (C : Int) (by rw [HCC.out]))
            clear k92 k92b
            cases ps with
            | true =>
              have hso : sone ch p = .inl (p.add ch) := by unfold sone; rw [if_neg HNN.out.1, if_neg HNN.out.2, if_pos (by rw [HPS.out]; rfl)]
              have hR := HRR.out
              rw [hso] at hR
              have HR3 := Lib.hid hR
              clear hso hR e92
              go_wp2_with (go_at_call 32; (with_reducible refine HQ.out.mono ?_))
              intro e w4 hp
              obtain ⟨rfl, hp4, hb4⟩ := hp
              dsimp only
              have hB4 : B ≤ w4.heap.size := Nat.le_trans hBq hb4.size
              obtain ⟨_, vo4, h41, h42⟩ := hp4
              have c43 : w4.cell? ⟨g, 3, none⟩ = some (.bool p.single) := by simp [World.cell?, h41]
              have c44 : w4.cell? ⟨g, 4, none⟩ = some (.bool p.twin) := by simp [World.cell?, h41]
              have c41 : w4.cell? ⟨g, 1, none⟩ = some (.string ⟨p.word.toArray⟩) := by simp [World.cell?, h41]
              rw [HPS.out] at c43
              rw [HPT.out] at c44
              have HP4 := Lib.hid (show IsP B g p w4 from ⟨by assumption, vo4, h41, h42⟩)
              have HB4 := Lib.hid (HBQ.out.trans hb4)
              clear h41 h42 hb4 c3
              have HAD := Lib.hid (padd_at B g p ch (C : Int) (by rw [HCC.out]) w4 HP4.out (by omega) hB4)
              go_wp2_with (go_at_call 31; (with_reducible refine HAD.out.mono ?_))
              intro e w5 hp
              obtain ⟨rfl, hp5, hb5⟩ := hp
              dsimp only
              have HP5 := Lib.hid hp5
              have HB5 := Lib.hid (HB4.out.trans hb5)
              clear hp5 hb5 c43 c44 c41
              go_wp2_with fail
              go_roundg (m - (j + 1))
              case measure => omega
              case rel => exact ⟨j + 1, p.add ch, by go_num, by omega, rfl, HR3, HP5, by simp [SP.add]; omega, by simp [SP.add]; omega, HB5⟩
            | false =>
              cases pt with
              | true =>
                have hso : sone ch p = .inl (p.add ch) := by unfold sone; rw [if_neg HNN.out.1, if_neg HNN.out.2, if_pos (by rw [HPS.out, HPT.out]; rfl)]
                have hR := HRR.out
                rw [hso] at hR
                have HR3 := Lib.hid hR
                clear hso hR e92
                go_wp2_with (go_at_call 32; (with_reducible refine HQ.out.mono ?_))
                intro e w4 hp
                obtain ⟨rfl, hp4, hb4⟩ := hp
                dsimp only
                have hB4 : B ≤ w4.heap.size := Nat.le_trans hBq hb4.size
                obtain ⟨_, vo4, h41, h42⟩ := hp4
                have c43 : w4.cell? ⟨g, 3, none⟩ = some (.bool p.single) := by simp [World.cell?, h41]
                have c44 : w4.cell? ⟨g, 4, none⟩ = some (.bool p.twin) := by simp [World.cell?, h41]
                have c41 : w4.cell? ⟨g, 1, none⟩ = some (.string ⟨p.word.toArray⟩) := by simp [World.cell?, h41]
                rw [HPS.out] at c43
                rw [HPT.out] at c44
                have HP4 := Lib.hid (show IsP B g p w4 from ⟨by assumption, vo4, h41, h42⟩)
                have HB4 := Lib.hid (HBQ.out.trans hb4)
                clear h41 h42 hb4 c3
                have HAD := Lib.hid (padd_at B g p ch (C : Int) (by rw [HCC.out]) w4 HP4.out (by omega) hB4)
                go_wp2_with (go_at_call 31; (with_reducible refine HAD.out.mono ?_))
                intro e w5 hp
                obtain ⟨rfl, hp5, hb5⟩ := hp
                dsimp only
                have HP5 := Lib.hid hp5
                have HB5 := Lib.hid (HB4.out.trans hb5)
                clear hp5 hb5 c43 c44 c41
                go_wp2_with fail
                go_roundg (m - (j + 1))
                case measure => omega
                case rel => exact ⟨j + 1, p.add ch, by go_num, by omega, rfl, HR3, HP5, by simp [SP.add]; omega, by simp [SP.add]; omega, HB5⟩
              | false =>
                have hR := HRR.out
                have hqq : ¬ (p.single || p.twin) = true := by rw [HPS.out, HPT.out]; decide
                have one : sone ch p = if spB ch = true then .inl p.end else if ch.toNat = 62 ∧ headDig p.word = true then .inr .opn else if sepB ch = true then .inr (.yes p.end.out) else .inl (p.add ch) := by unfold sone; rw [if_neg HNN.out.1, if_neg HNN.out.2, if_neg hqq]
                rw [one] at hR
                clear one hqq
                by_cases hsp : spB ch = true
                · rw [if_pos hsp] at hR
                  have HR3 := Lib.hid hR
                  have h4 : C = 32 ∨ C = 9 ∨ C = 10 ∨ C = 13 := by
                    unfold spB at hsp
                    simp only [Bool.or_eq_true, beq_iff_eq, HCC.out] at hsp
                    omega
                  clear hR hsp e92
                  go_wp2_with (go_at_call 32; (with_reducible refine HQ.out.mono ?_))
                  intro e w4 hp
                  obtain ⟨rfl, hp4, hb4⟩ := hp
                  dsimp only
                  have hB4 : B ≤ w4.heap.size := Nat.le_trans hBq hb4.size
                  obtain ⟨_, vo4, h41, h42⟩ := hp4
                  have c43 : w4.cell? ⟨g, 3, none⟩ = some (.bool p.single) := by simp [World.cell?, h41]
                  have c44 : w4.cell? ⟨g, 4, none⟩ = some (.bool p.twin) := by simp [World.cell?, h41]
                  have c41 : w4.cell? ⟨g, 1, none⟩ = some (.string ⟨p.word.toArray⟩) := by simp [World.cell?, h41]
                  rw [HPS.out] at c43
                  rw [HPT.out] at c44
                  have HP4 := Lib.hid (show IsP B g p w4 from ⟨by assumption, vo4, h41, h42⟩)
                  have HB4 := Lib.hid (HBQ.out.trans hb4)
                  clear h41 h42 hb4 c3
                  rcases h4 with rfl | rfl | rfl | rfl
                  all_goals
                    have HEN := Lib.hid (pend_at B g p w4 HP4.out (by omega) hB4)
                    go_wp2_with (go_at_call 33; (with_reducible refine HEN.out.mono ?_))
                    intro e w5 hp
                    obtain ⟨rfl, hp5, hb5⟩ := hp
                    dsimp only
                    have HP5 := Lib.hid hp5
                    have HB5 := Lib.hid (HB4.out.trans hb5)
                    clear hp5 hb5 c43 c44 c41
                    go_wp2_with fail
                    go_roundg (m - (j + 1))
                    case measure => omega
                    case rel => exact ⟨j + 1, p.end, by go_num, by omega, rfl, HR3, HP5, by rw [(end_len p).2]; exact Nat.zero_le _, by have := (end_len p).1; omega, HB5⟩
                rw [if_neg hsp] at hR
                have hns : C ≠ 32 ∧ C ≠ 9 ∧ C ≠ 10 ∧ C ≠ 13 := by
                  unfold spB at hsp
                  simp only [Bool.or_eq_true, beq_iff_eq, HCC.out] at hsp
                  omega
                have n1 : ((C : Int) == 32) = false := by rw [beq_eq_false_iff_ne]; omega
                have n2 : ((C : Int) == 9) = false := by rw [beq_eq_false_iff_ne]; omega
                have n3 : ((C : Int) == 10) = false := by rw [beq_eq_false_iff_ne]; omega
                have n4 : ((C : Int) == 13) = false := by rw [beq_eq_false_iff_ne]; omega
                clear hns hsp
                by_cases h62 : C = 62
                · subst h62
                  clear e92 n1 n2 n3 n4 e92z
                  have HQ := Lib.hid (HQ0.out 62 (by rw [HCC.out]; rfl))
                  have hsep : sepB ch = true := by unfold sepB; rw [HCC.out]; rfl
                  go_wp2_with (go_at_call 32; (with_reducible refine HQ.out.mono ?_))
                  intro e w4 hp
                  obtain ⟨rfl, hp4, hb4⟩ := hp
                  dsimp only
                  have hB4 : B ≤ w4.heap.size := Nat.le_trans hBq hb4.size
                  obtain ⟨_, vo4, h41, h42⟩ := hp4
                  have c43 : w4.cell? ⟨g, 3, none⟩ = some (.bool p.single) := by simp [World.cell?, h41]
                  have c44 : w4.cell? ⟨g, 4, none⟩ = some (.bool p.twin) := by simp [World.cell?, h41]
                  have c41 : w4.cell? ⟨g, 1, none⟩ = some (.string ⟨p.word.toArray⟩) := by simp [World.cell?, h41]
                  rw [HPS.out] at c43
                  rw [HPT.out] at c44
                  have HP4 := Lib.hid (show IsP B g p w4 from ⟨by assumption, vo4, h41, h42⟩)
                  have HB4 := Lib.hid (HBQ.out.trans hb4)
                  clear h41 h42 hb4 c3
                  cases hw : p.word with
                  | nil =>
                    rw [hw] at c41
                    rw [if_neg (by rw [hw]; rintro ⟨_, h⟩; cases h), if_pos hsep] at hR
                    obtain rfl : SA.yes p.end.out = R := hR
                    have c41' : w4.cell? ⟨g, 1, none⟩ = some (.string ⟨#[]⟩) := c41
                    clear hsep c41 hw
                    have HEN := Lib.hid (pend_at B g p w4 HP4.out (by omega) hB4)
                    go_wp2_with (go_at_call 33; (with_reducible refine HEN.out.mono ?_))
                    intro e w6 hp
                    obtain ⟨rfl, hp6, hb6⟩ := hp
                    dsimp only
                    obtain ⟨_, vo6, h61, h62⟩ := hp6
                    have c60 : w6.cell? ⟨g, 0, none⟩ = some vo6 := by simp [World.cell?, h61]
                    have H62 := Lib.hid h62
                    have HB6 := Lib.hid (HB4.out.trans hb6)
                    clear h61 h62 hb6
                    go_wp2_with fail
                    go_ret2
                    exact ⟨by rw [HBB.out]; exact HB6.out, vo6, rfl, by rw [HBB.out]; exact H62.out⟩
                  | cons x tl =>
                    rw [hw] at c41
                    obtain ⟨W, hW⟩ : ∃ W : ByteArray, (⟨(x :: tl).toArray⟩ : ByteArray) = W := ⟨_, rfl⟩
                    obtain ⟨Xc, hXc⟩ : ∃ Xc : Nat, x.toNat = Xc := ⟨_, rfl⟩
                    rw [hW] at c41
                    have hWl : W.data.toList = x :: tl := by rw [← hW]
                    have hWe : W.toList.isEmpty = false := by rw [Lib.toList_data, hWl]; rfl
                    have hWs : 0 < W.size := by rw [Lib.size_eq, hWl]; simp
                    have hWz : (0 : Int) < (W.size : Int) := by omega
                    have hW0 : ∀ h : 0 < W.size, ((W[0]'h).toNat : Int) = (Xc : Int) := fun h => by subst hW; rw [← hXc]; rfl
                    have hW0' : ∀ h : (0 : Int).toNat < W.size, ((W[(0 : Int).toNat]'h).toNat : Int) = (Xc : Int) := fun h => hW0 h
                    have hX256 : Xc < 256 := by have := x.toNat_lt; omega
                    obtain ⟨db, hdb⟩ : ∃ db, (decide (48 ≤ Xc) && decide (Xc ≤ 57)) = db := ⟨_, rfl⟩
                    have HD := Lib.hid (fun w => digit_at Xc (Xc : Int) w db rfl hdb)
                    have hhd : headDig p.word = db := by rw [hw, ← hdb, ← hXc]; rfl
                    have HWW := Lib.hid hW
                    rw [hhd] at hR
                    clear hW hWl hdb hhd hXc hw
                    go_wp2_with (go_at_call 34; (with_reducible refine (HD.out _).mono ?_))
                    rintro e w5 ⟨rfl, hb5⟩
                    dsimp only
                    have HP5 := Lib.hid (HP4.out.below hb5)
                    have hB5 : B ≤ w5.heap.size := Nat.le_trans hB4 hb5.size
                    have HB5 := Lib.hid (HB4.out.trans (hb5.mono (by rw [← HBB.out]; exact HB4.out.size)))
                    clear hb5
                    cases db with
                    | true =>
                      rw [if_pos ⟨HCC.out, rfl⟩] at hR
                      obtain rfl : SA.opn = R := hR
                      clear c41
                      go_wp2_with fail
                      go_ret2
                      exact ⟨by rw [HBB.out]; exact HB5.out, rfl⟩
                    | false =>
                      rw [if_neg (by rintro ⟨_, h⟩; cases h), if_pos hsep] at hR
                      obtain rfl : SA.yes p.end.out = R := hR
                      clear c41 hsep
                      have HEN := Lib.hid (pend_at B g p w5 HP5.out (by omega) hB5)
                      go_wp2_with (go_at_call 33; (with_reducible refine HEN.out.mono ?_))
                      intro e w6 hp
                      obtain ⟨rfl, hp6, hb6⟩ := hp
                      dsimp only
                      obtain ⟨_, vo6, h61, h62⟩ := hp6
                      have c60 : w6.cell? ⟨g, 0, none⟩ = some vo6 := by simp [World.cell?, h61]
                      have H62 := Lib.hid h62
                      have HB6 := Lib.hid (HB5.out.trans hb6)
                      clear h61 h62 hb6
                      go_wp2_with fail
                      go_ret2
                      exact ⟨by rw [HBB.out]; exact HB6.out, vo6, rfl, by rw [HBB.out]; exact H62.out⟩
                rw [if_neg (by rw [HCC.out]; omega)] at hR
                have n62 : ((C : Int) == 62) = false := by rw [beq_eq_false_iff_ne]; omega
                by_cases hse : sepB ch = true
                · rw [if_pos hse] at hR
                  obtain rfl : SA.yes p.end.out = R := hR
                  have h4 : C = 59 ∨ C = 38 ∨ C = 124 ∨ C = 60 := by
                    unfold sepB at hse
                    simp only [Bool.or_eq_true, beq_iff_eq, HCC.out] at hse
                    omega
                  clear hse e92 h62
                  go_wp2_with (go_at_call 32; (with_reducible refine HQ.out.mono ?_))
                  intro e w4 hp
                  obtain ⟨rfl, hp4, hb4⟩ := hp
                  dsimp only
                  have hB4 : B ≤ w4.heap.size := Nat.le_trans hBq hb4.size
                  obtain ⟨_, vo4, h41, h42⟩ := hp4
                  have c43 : w4.cell? ⟨g, 3, none⟩ = some (.bool p.single) := by simp [World.cell?, h41]
                  have c44 : w4.cell? ⟨g, 4, none⟩ = some (.bool p.twin) := by simp [World.cell?, h41]
                  have c41 : w4.cell? ⟨g, 1, none⟩ = some (.string ⟨p.word.toArray⟩) := by simp [World.cell?, h41]
                  rw [HPS.out] at c43
                  rw [HPT.out] at c44
                  have HP4 := Lib.hid (show IsP B g p w4 from ⟨by assumption, vo4, h41, h42⟩)
                  have HB4 := Lib.hid (HBQ.out.trans hb4)
                  clear h41 h42 hb4 c3
                  rcases h4 with rfl | rfl | rfl | rfl
                  all_goals
                    have HEN := Lib.hid (pend_at B g p w4 HP4.out (by omega) hB4)
                    go_wp2_with (go_at_call 33; (with_reducible refine HEN.out.mono ?_))
                    intro e w5 hp
                    obtain ⟨rfl, hp5, hb5⟩ := hp
                    dsimp only
                    obtain ⟨_, vo5, h51, h52⟩ := hp5
                    have c50 : w5.cell? ⟨g, 0, none⟩ = some vo5 := by simp [World.cell?, h51]
                    have H52 := Lib.hid h52
                    have HB5 := Lib.hid (HB4.out.trans hb5)
                    clear h51 h52 hb5 c43 c44 c41
                    go_wp2_with fail
                    go_ret2
                    exact ⟨by rw [HBB.out]; exact HB5.out, vo5, rfl, by rw [HBB.out]; exact H52.out⟩
                rw [if_neg hse] at hR
                have HR3 := Lib.hid hR
                have hns : C ≠ 59 ∧ C ≠ 38 ∧ C ≠ 124 ∧ C ≠ 60 := by
                  unfold sepB at hse
                  simp only [Bool.or_eq_true, beq_iff_eq, HCC.out] at hse
                  omega
                have n5 : ((C : Int) == 59) = false := by rw [beq_eq_false_iff_ne]; omega
                have n6 : ((C : Int) == 38) = false := by rw [beq_eq_false_iff_ne]; omega
                have n7 : ((C : Int) == 124) = false := by rw [beq_eq_false_iff_ne]; omega
                have n8 : ((C : Int) == 60) = false := by rw [beq_eq_false_iff_ne]; omega
                clear hns hse e92 h62 hR
                go_wp2_with (go_at_call 32; (with_reducible refine HQ.out.mono ?_))
                intro e w4 hp
                obtain ⟨rfl, hp4, hb4⟩ := hp
                dsimp only
                have hB4 : B ≤ w4.heap.size := Nat.le_trans hBq hb4.size
                obtain ⟨_, vo4, h41, h42⟩ := hp4
                have c43 : w4.cell? ⟨g, 3, none⟩ = some (.bool p.single) := by simp [World.cell?, h41]
                have c44 : w4.cell? ⟨g, 4, none⟩ = some (.bool p.twin) := by simp [World.cell?, h41]
                have c41 : w4.cell? ⟨g, 1, none⟩ = some (.string ⟨p.word.toArray⟩) := by simp [World.cell?, h41]
                rw [HPS.out] at c43
                rw [HPT.out] at c44
                have HP4 := Lib.hid (show IsP B g p w4 from ⟨by assumption, vo4, h41, h42⟩)
                have HB4 := Lib.hid (HBQ.out.trans hb4)
                clear h41 h42 hb4 c3
                have HAD := Lib.hid (padd_at B g p ch (C : Int) (by rw [HCC.out]) w4 HP4.out (by omega) hB4)
                go_wp2_with (go_at_call 31; (with_reducible refine HAD.out.mono ?_))
                intro e w5 hp
                obtain ⟨rfl, hp5, hb5⟩ := hp
                dsimp only
                have HP5 := Lib.hid hp5
                have HB5 := Lib.hid (HB4.out.trans hb5)
                clear hp5 hb5 c43 c44 c41
                go_wp2_with fail
                go_roundg (m - (j + 1))
                case measure => omega
                case rel => exact ⟨j + 1, p.add ch, by go_num, by omega, rfl, HR3, HP5, by simp [SP.add]; omega, by simp [SP.add]; omega, HB5⟩
      · have hjz : ¬ (j : Int) < (m : Int) := by omega
        have hR := HRR.out
        rw [List.drop_eq_nil_of_le (by rw [HML.out]; omega), srun] at hR
        obtain ⟨_, vo, h1, h2⟩ := HP.out
        have hBq : B ≤ wr.heap.size := by have := HBQ.out.size; rw [← HBB.out]; exact this
        have c3 : wr.cell? ⟨g, 3, none⟩ = some (.bool p.single) := by simp [World.cell?, h1]
        have c4 : wr.cell? ⟨g, 4, none⟩ = some (.bool p.twin) := by simp [World.cell?, h1]
        have HEN := Lib.hid (pend_at B g p wr HP.out (by omega) hBq)
        clear h1 h2
        cases hps : p.single with
        | true =>
          rw [hps] at c3 hR
          obtain rfl : SA.no = R := hR
          clear hps
          go_wp2_with fail
          go_ret2
          exact ⟨by rw [HBB.out]; exact HBQ.out, rfl⟩
        | false =>
          cases hpt : p.twin with
          | true =>
            rw [hps] at c3 hR
            rw [hpt] at c4 hR
            obtain rfl : SA.no = R := hR
            clear hps hpt
            go_wp2_with fail
            go_ret2
            exact ⟨by rw [HBB.out]; exact HBQ.out, rfl⟩
          | false =>
            rw [hps] at c3 hR
            rw [hpt] at c4 hR
            obtain rfl : SA.yes p.end.out = R := hR
            clear hps hpt
            go_wp2_with (go_at_call 33; (with_reducible refine HEN.out.mono ?_))
            rintro e w4 ⟨rfl, hp4, hb4⟩
            dsimp only
            obtain ⟨_, vo4, h1, h2⟩ := hp4
            have c0 : w4.cell? ⟨g, 0, none⟩ = some vo4 := by simp [World.cell?, h1]
            have H2 := Lib.hid h2
            have HB4 := Lib.hid (HBQ.out.trans hb4)
            clear h1 h2 hb4 c3 c4
            go_wp2_with fail
            go_ret2
            exact ⟨by rw [HBB.out]; exact HB4.out, vo4, rfl, by rw [HBB.out]; exact H2.out⟩
end Go.Proofs.YtcjfcjlendibpaaDoor
