/- The properties' parse. -/
import Derived.Test.YtackciefmdiphaaGreatDoorParM3
import Derived.Deep.RegionLaw
import Derived.Deep.AppendLies
import Derived.ScopeJumps
import Derived.WalkMore
import Derived.StillTailTactics
set_option linter.unusedVariables false
namespace Go.Proofs.YtackciefmdiphaaGreatDoor
open Go.RowKit Plain Go.Maps

def ParPost (o : Option PSt) (w : World) (e : Ending) (w' : World) : Prop :=
  match o with
  | some p => ∃ pb mb mc n nc DC lv, e = .returned (.tuple #[.pointer (some ⟨pb, 0, none⟩), .nilIface]) ∧ PQ w.heap.size pb mb mc n nc p DC lv w' ∧ CRel w.heap.size DC p.cf lv (.slice none 0 0) w' ∧ Below w.heap.size w w'
  | none => ∃ P N : Nat, e = .returned (.tuple #[.pointer (some ⟨P, 0, none⟩), .iface 194 (.pointer (some ⟨N, 0, none⟩))]) ∧ Below w.heap.size w w'
/-- a frame with deferred calls, known by its size -/
theorem frame_litD (n : Nat) (a : Act) (ds : List Deferred) (h : a.tmps.size = n ∧ a.defers = ds) : ∃ f : Nat → Value, (∀ i, Sl a i = f i) ∧ a = ⟨((List.range n).map f).toArray, ds⟩ := by
  obtain ⟨h1, h2⟩ := h
  refine ⟨Sl a, fun _ => rfl, ?_⟩
  have e := list_lit a.tmps.toList
  rw [Array.length_toList, h1] at e
  cases a with
  | mk t d =>
    subst h2
    congr 1
    apply Array.toList_inj.1
    exact e.symm
theorem litD88 (a : Act) (ds : List Deferred) (h : a.tmps.size = 88 ∧ a.defers = ds) : ∃ f : Nat → Value, (∀ i, Sl a i = f i) ∧ a = ⟨#[f 0, f 1, f 2, f 3, f 4, f 5, f 6, f 7, f 8, f 9, f 10, f 11, f 12, f 13, f 14, f 15, f 16, f 17, f 18, f 19, f 20, f 21, f 22, f 23, f 24, f 25, f 26, f 27, f 28, f 29, f 30, f 31, f 32, f 33, f 34, f 35, f 36, f 37, f 38, f 39, f 40, f 41, f 42, f 43, f 44, f 45, f 46, f 47, f 48, f 49, f 50, f 51, f 52, f 53, f 54, f 55, f 56, f 57, f 58, f 59, f 60, f 61, f 62, f 63, f 64, f 65, f 66, f 67, f 68, f 69, f 70, f 71, f 72, f 73, f 74, f 75, f 76, f 77, f 78, f 79, f 80, f 81, f 82, f 83, f 84, f 85, f 86, f 87], ds⟩ := frame_litD 88 a ds h
def defR (qb e0 : Nat) : Deferred := { target := .fn (.func 94) #[], args := #[.pointer (some ⟨qb, 0, none⟩), .pointer (some ⟨e0, 0, none⟩)] }
/-- what holds where the parser is done -/
def DoneP (w : World) (o : Option PSt) (e0 : Nat) (a : Act) (w' : World) : Prop :=
  ∃ p pb mb mc n nc DC lv qb, o = some p ∧ a.tmps.size = 88 ∧ a.defers = [defR qb e0] ∧ Sl a 2 = .pointer (some ⟨pb, 0, none⟩) ∧ Sl a 3 = .pointer (some ⟨e0, 0, none⟩) ∧ PQ w.heap.size pb mb mc n nc p DC lv w' ∧ CRel w.heap.size DC p.cf lv (.slice none 0 0) w' ∧ Below w.heap.size w w' ∧ w.heap.size ≤ e0 ∧ w'.heap[e0]? = some (.cells #[.nilIface] 67 (0, 0))
set_option maxHeartbeats 4000000 in
set_option maxRecDepth 100000 in
/-- the way out of a panic -/
theorem door_pan (w : World) (e0 qb pb N : Nat) (a : Act) (w' : World) (h1 : a.tmps.size = 88) (h2 : a.defers = [defR qb e0]) (h3 : Sl a 2 = .pointer (some ⟨pb, 0, none⟩)) (h4 : Sl a 3 = .pointer (some ⟨e0, 0, none⟩)) (hle : w.heap.size ≤ e0) (hcell : w'.heap[e0]? = some (.cells #[.nilIface] 67 (0, 0))) (hb : Below w.heap.size w w') :
    bodyPostD Tryz.prog Tryz.f77 (ParPost none w) (Exit.panic [{ v := .iface 194 (.pointer (some ⟨N, 0, none⟩)), recovered := false }]) a w' := by
  obtain ⟨f, hf, hA⟩ := litD88 a _ ⟨h1, h2⟩
  rw [hf] at h3 h4
  rw [h3, h4] at hA
  subst hA
  clear hf h1 h2 h3 h4
  have c0 : w'.cell? ⟨e0, 0, none⟩ = some .nilIface := by simp [World.cell?, hcell]
  have f0 : w'.frozen? ⟨e0, 0, none⟩ = false := by simp [World.frozen?, hcell]
  unfold defR
  refine leaves_cons (f := 94) (args := #[.pointer (some ⟨qb, 0, none⟩), .pointer (some ⟨e0, 0, none⟩)]) (by simp) (by simp [go_sem]) ?_
  refine (rec_pan _ ⟨e0, 0, none⟩ _ _ [] _ c0 f0).mono ?_
  rintro e u' w'' ⟨rfl, rfl, rfl⟩
  obtain ⟨W2, hW2⟩ : ∃ W2, w'.setCell ⟨e0, 0, none⟩ (.iface 194 (.pointer (some ⟨N, 0, none⟩))) = W2 := ⟨_, rfl⟩
  have d0 : W2.cell? ⟨e0, 0, none⟩ = some (.iface 194 (.pointer (some ⟨N, 0, none⟩))) := by rw [← hW2]; exact World.cell?_setCell_same' w' ⟨e0, 0, none⟩ _ (by simp [c0])
  have hb2 : Below w.heap.size w W2 := by rw [← hW2]; exact hb.setCell (p := ⟨e0, 0, none⟩) hle _
  rw [hW2]
  simp [Leaves, settle, results, Tryz.results77, go_sem, d0]
  exact ⟨pb, N, rfl, hb2⟩
/-- what holds in the loop -/
structure RL (w : World) (s : ByteArray) (o : Option PSt) (e0 qb lb g pb mb mc : Nat) (rest : List LI) (cm : List ByteArray) (p : PSt) (n nc : Nat) (DC : DataW Value) (lv cmv : Value) (wr : World) : Prop where
  pm : PM w e0 qb lb pb mb mc n nc p DC lv cmv cm wr
  it : IT lb g s rest wr
  wf : WfI rest
  law : parL rest cm p = o
  txt : ∀ x ∈ rest, x.text.size ≤ 10000000
  b1 : cm.length + rest.length ≤ 10000000
  b2 : p.ks.length + rest.length ≤ 10000000
  b3 : n + rest.length ≤ 10000000
  b4 : nc + rest.length ≤ 10000000
set_option maxHeartbeats 16000000 in
set_option maxRecDepth 100000 in
theorem parse_any (s : ByteArray) (w : World) (hs : s.size ≤ 100000) (hT : Tabs w) (o : Option PSt) (ho : parL (lexL s) [] pst0 = o) :
    Calls Tryz.prog 77 #[.string s] w (ParPost o w) := by
  go_enter_defers Tryz.func77, Tryz.ntmps77
  go_wp2
  obtain ⟨e0, he0⟩ : ∃ e0, w.heap.size = e0 := ⟨_, rfl⟩
  rw [he0]
  refine wp_scope_jumps 0 (DoneP w o e0) (fun _ _ => 0) (by rfl) ?first ?pass
  case pass =>
    rintro a w' ⟨p, pb, mb, mc, n, nc, DC, lv, qb, ho', ha1, ha2, hS2, hS3, hq, hc, hb, hle, hcell⟩
    obtain ⟨f, hf, hA⟩ := litD88 a _ ⟨ha1, ha2⟩
    rw [hf] at hS2 hS3
    rw [hS2, hS3] at hA
    subst hA
    clear hf ha1 ha2 hS2 hS3
    have c0 : w'.cell? ⟨e0, 0, none⟩ = some .nilIface := by simp [World.cell?, hcell]
    have f0 : w'.frozen? ⟨e0, 0, none⟩ = false := by simp [World.frozen?, hcell]
    have HQ := Lib.hid hq
    have HC := Lib.hid hc
    have HB := Lib.hid hb
    have HCE := Lib.hid hcell
    clear hq hc hb hcell
    go_wp2
    change bodyPostD Tryz.prog Tryz.f77 (ParPost o w) Exit.ret _ _
    obtain ⟨W2, hW2⟩ : ∃ W2, w'.setCell ⟨e0, 0, none⟩ .nilIface = W2 := ⟨_, rfl⟩
    have d0 : W2.cell? ⟨e0, 0, none⟩ = some .nilIface := by rw [← hW2]; exact World.cell?_setCell_same' w' ⟨e0, 0, none⟩ _ (by simp [c0])
    have hkp : ∀ j, j ≠ e0 → W2.heap[j]? = w'.heap[j]? := fun j hj => by rw [← hW2]; exact Below.heap_setCell _ _ _ _ hj
    rw [hW2]
    have hne : ∀ {k : Nat} {c : Array Value} {u : TypeId}, w'.heap[k]? = some (.cells c u (0, 0)) → u ≠ 67 → k ≠ e0 := fun h1 h2 e => by
      subst e
      rw [HCE.out] at h1
      injection h1 with h1
      injection h1 with _ h1
      exact h2 h1.symm
    have hq := HQ.out
    have hq2 : PQ w.heap.size pb mb mc n nc p DC lv W2 := ⟨(hkp pb (hne hq.blk (by decide))).trans hq.blk, mp_keep hq.mp (hkp mb (fun e => by obtain ⟨es, c, h⟩ := mp_is hq.mp; rw [e, HCE.out] at h; cases h)), mpc_keep hq.cp (hkp mc (fun e => by obtain ⟨es, c, h⟩ := mpc_is hq.cp; rw [e, HCE.out] at h; cases h)), row_keep hq.row (fun g hg => by obtain ⟨cs, h⟩ := row_cells hq.row hg; exact hkp g (hne h (by decide))), hq.lo⟩
    have hc2 : CRel w.heap.size DC p.cf lv (.slice none 0 0) W2 := HC.out.keep (fun g cs h _ _ => hkp g (hne h (by decide))) (.inl rfl) (.inl rfl)
    have hb2 : Below w.heap.size w W2 := by rw [← hW2]; exact HB.out.setCell (p := ⟨e0, 0, none⟩) hle _
    have HF := Lib.hid (And.intro hq2 (And.intro hc2 hb2))
    clear hq hq2 hc2 hb2 hne hkp hW2 c0 f0
    unfold defR
    refine leaves_cons (f := 94) (args := #[.pointer (some ⟨qb, 0, none⟩), .pointer (some ⟨e0, 0, none⟩)]) (by simp) (by simp [go_sem]) ?_
    refine (rec_idle _ ⟨e0, 0, none⟩ _).mono ?_
    rintro e u' w'' ⟨rfl, rfl, rfl⟩
    subst ho'
    simp [Leaves, settle, results, Tryz.results77, go_sem, d0]
    exact ⟨pb, mb, mc, n, nc, DC, lv, rfl, HF.out.1, HF.out.2.1, HF.out.2.2⟩
  case first =>
    have hb0 : Below w.heap.size w (w.alloc (.cells #[.nilIface] 67)) := (Below.refl _ w).alloc (Nat.le_refl _) _
    have hT0 := hT.below hb0
    have h00 : (w.alloc (.cells #[.nilIface] 67)).heap[e0]? = some (.cells #[.nilIface] 67 (0, 0)) := by rw [← he0]; exact heap_alloc_new w _
    have h0s : (w.alloc (.cells #[.nilIface] 67)).heap.size = e0 + 1 := by simp [he0]
    obtain ⟨w0, hw0⟩ : ∃ w0, w.alloc (.cells #[.nilIface] 67) = w0 := ⟨_, rfl⟩
    rw [hw0] at hb0 hT0 h00 h0s ⊢
    have HLX := Lib.hid (lex_any s w0 hs hT0)
    have HB0 := Lib.hid hb0
    have HE0 := Lib.hid h00
    have HS0 := Lib.hid h0s
    have HO := Lib.hid ho
    clear hw0 hb0 hT0 h00 h0s ho
    go_wp2_with (go_at_call 60; (with_reducible refine HLX.out.mono ?_); rintro e w1 ⟨lb, q0, st0, rs0, rfl, hy, hb1⟩; dsimp only)
    have hwf := wfI_lexL s
    have hne : lexL s ≠ [] := fun e => by rw [e] at hwf; exact hwf
    obtain ⟨g, hit⟩ := hy.it hne
    have hlo : w0.heap.size ≤ lb := by obtain ⟨wd, h⟩ := hy; exact h.lo
    obtain ⟨qb, hqb⟩ : ∃ qb, w1.heap.size = qb := ⟨_, rfl⟩
    obtain ⟨w2, hw2⟩ : ∃ w2, w1.alloc (.cells #[.pointer (some ⟨lb, 0, none⟩)] 168) = w2 := ⟨_, rfl⟩
    have hb2 : Below w1.heap.size w1 w2 := hw2 ▸ (Below.refl _ w1).alloc (Nat.le_refl _) _
    have hq2 : w2.heap[qb]? = some (.cells #[.pointer (some ⟨lb, 0, none⟩)] 168 (0, 0)) := by rw [← hw2, ← hqb]; exact heap_alloc_new w1 _
    have HIT2 := Lib.hid (hit.below hb2)
    have HB2 : Hid (Below w0.heap.size w0 w2) := Lib.hid (bthen hb1 hb2)
    have HQ2 := Lib.hid hq2
    have HNP := Lib.hid (newPQ_any w2)
    have HW2 := Lib.hid hw2
    have HQB := Lib.hid hqb
    clear hit hy hb1 hb2 hq2 hw2 hqb
    go_wp2_with (go_at_call 48; rw [HW2.out]; (with_reducible refine HNP.out.mono ?_); rintro e w3 ⟨pb, mb, mc, lv, rfl, hpq, hb3⟩; (try rw [HQB.out]); dsimp only)
    have HQQ : Hid (PM w e0 qb lb pb mb mc 0 0 pst0 (.map []) lv (.slice (some ⟨w3.heap.size, 0, none⟩) 0 0) [] (w3.alloc (.cells #[] 9))) := Lib.hid (by
      have hb02 : Below w.heap.size w w2 := HB0.out.trans (HB2.out.mono (by have := HS0.out; omega))
      have h02 : w0.heap.size ≤ w2.heap.size := HB2.out.size
      have hb03 : Below w.heap.size w w3 := hb02.trans (hb3.mono hb02.size)
      have he2 : w2.heap[e0]? = _ := (HB2.out.block e0 (by have := HS0.out; omega)).trans HE0.out
      exact PM.start (hpq.base hb02.size) hb03 ((hb3.block _ (lx_lt he2)).trans he2) ((hb3.block _ (lx_lt HQ2.out)).trans HQ2.out) ⟨by omega, by have := HS0.out; omega⟩)
    have HIT4 : Hid (IT lb g s (lexL s) (w3.alloc (.cells #[] 9))) := Lib.hid ((HIT2.out.below hb3).below ((Below.refl _ w3).alloc (Nat.le_refl _) _))
    have hlen := lexN_len s (4 * s.size + 4) .before 0
    obtain ⟨w4, hw4⟩ : ∃ w4, w3.alloc (.cells #[] 9) = w4 := ⟨_, rfl⟩
    obtain ⟨c4, hc4⟩ : ∃ c4, w3.heap.size = c4 := ⟨_, rfl⟩
    rw [hw4, hc4] at HQQ
    rw [hw4] at HIT4
    rw [hw4, hc4]
    have HRL : Hid (RL w s o e0 qb lb g pb mb mc (lexL s) [] pst0 0 0 (.map []) lv (.slice (some ⟨c4, 0, none⟩) 0 0) w4) := Lib.hid ⟨HQQ.out, HIT4.out, hwf, HO.out, fun x hx => by have := lexL_text s x hx; omega, by unfold lexL; simp; omega, by unfold lexL; simp [pst0]; omega, by unfold lexL; simp; omega, by unfold lexL; simp; omega⟩
    clear hlen hw4 hc4 HQQ HIT4 hpq hb3 HNP HW2 HQB HLX HB2 HQ2 HIT2 HE0 HS0 HB0 hwf hne hlo hT HO
    go_loopg [6] (lexL s).length (fun g' v6 wr => ∃ rest cm p n nc DC lv, rest.length = g' ∧ Hid (RL w s o e0 qb lb g pb mb mc rest cm p n nc DC lv v6 wr))
    case atStart => exact ⟨lexL s, [], pst0, 0, 0, .map [], lv, rfl, HRL⟩
    case round =>
      clear HRL
      obtain ⟨rest, cm, p, n, nc, DC, lv, rfl, HRL⟩ := hrel
      obtain ⟨x, r, rfl⟩ : ∃ x r, rest = x :: r := by
        cases rest with
        | nil => exact HRL.out.wf.elim
        | cons x r => exact ⟨x, r, rfl⟩
      have HTK := Lib.hid (HRL.out.pm.take HRL.out.it [4, 2, 1] #[.int .i64 4, .int .i64 2, .int .i64 1] 3 rfl (by omega) (fun i k hk => by
        match i, hk with
        | 0, hk => simp at hk; subst hk; rfl
        | 1, hk => simp at hk; subst hk; rfl
        | 2, hk => simp at hk; subst hk; rfl
        | (i + 3), hk => simp at hk))
      have hk4 : x.kind ≤ 4 := by
        have := HRL.out.wf
        cases r with
        | nil => have h9 : x.kind < 2 := this; omega
        | cons y r => exact this.2.1
      obtain ⟨z, hz⟩ : ∃ z, wr.heap.size = z := ⟨_, rfl⟩
      rw [hz] at HTK
      by_cases h03 : x.kind = 0 ∨ x.kind = 3
      · go_wp2_with (go_at_call 95; (try rw [hz]); (with_reducible refine HTK.out.mono ?_); rintro e w5 ⟨_, hbad⟩; obtain ⟨N, rfl, hb5, hb6⟩ := hbad (by rcases h03 with h | h <;> rw [h] <;> decide))
        have ho : o = none := by
          rw [← HRL.out.law]
          unfold parL
          rw [if_neg (by omega), if_neg (by omega), if_neg (by omega)]
        subst ho
        have he := HRL.out.pm.le.1
        change bodyPostD Tryz.prog Tryz.f77 (ParPost none w) (Exit.panic [{ v := .iface 194 (.pointer (some ⟨N, 0, none⟩)), recovered := false }]) _ _
        exact door_pan w e0 qb pb N _ _ rfl rfl rfl rfl he hb5 hb6
      obtain ⟨P, hP⟩ : ∃ P : Int, (x.pos : Int) = P := ⟨_, rfl⟩
      obtain ⟨T, hT⟩ : ∃ T, x.text = T := ⟨_, rfl⟩
      obtain ⟨i0, hi, hz0, hz1, hz2⟩ := info_parts infoStr
      by_cases h1 : x.kind = 1
      · have HV : Hid (itemV x = .agg #[.int .i64 1, .int .i64 P, .string T]) := Lib.hid (by unfold itemV; rw [hP, hT, h1]; rfl)
        go_wp2_with (go_at_call 95; (try rw [hz]); (with_reducible refine HTK.out.mono ?_); rintro e w5 ⟨hok, _⟩; obtain ⟨rfl, hpm, hit, hsz, hkp⟩ := hok (by rw [h1]; decide); rw [HV.out]; have HPM := Lib.hid hpm; clear hok hpm hit hkp; dsimp only)
        go_step3
        exact ⟨rfl, p, pb, mb, mc, n, nc, DC, lv, qb, by rw [← HRL.out.law]; unfold parL; rw [if_pos h1], rfl, rfl, rfl, rfl, HPM.out.pq.below ((Below.refl _ w5).alloc (Nat.le_refl _) _), (HPM.out.alloc _).cr.keep (fun _ _ _ _ _ => rfl) (.inl rfl) (.inr fun g e => by cases e), (HPM.out.alloc _).bel, HPM.out.le.1, (HPM.out.alloc _).er⟩
      by_cases h4 : x.kind = 4
      · have HV : Hid (itemV x = .agg #[.int .i64 4, .int .i64 P, .string T]) := Lib.hid (by unfold itemV; rw [hP, hT, h4]; rfl)
        go_wp2_with (first | (go_at_call 95; (try rw [hz]); (with_reducible refine HTK.out.mono ?_); rintro e w5 ⟨hok, _⟩; obtain ⟨rfl, hpm, hit, hsz, hkp⟩ := hok (by rw [h4]; decide); rw [HV.out]; have HPM := Lib.hid hpm; have HITr := Lib.hid hit; clear hok hpm hit hkp; dsimp only) | (at_builtin; refine wpList_append_own_at _ rfl _ _ 22 rfl w.heap.size 9 i0 (.string ⟨#[]⟩) 1 16 Tryz.underlying22 hi hz0 hz1 hz2 rfl (by decide) u6 cm.length (cm.map Value.string) rfl ((HPM.out.alloc _).alloc _).cmr ⟨w5.heap.size + 1, 0, none⟩ 1 1 [.string T] rfl rfl (by have := cell_one_new (w5.alloc (.cells #[.int .i64 4, .int .i64 P, .string T] 121)) (.string T) 9; simpa using this) (by intro u hu; simp at hu; subst hu; rfl) (by have := HRL.out.b1; simp at this; unfold maxLen; omega) (by have := HRL.out.b1; simp at this; omega) (by have := HPM.out.bel.size; simp; omega) ?_; intro v' w6 hown6 hgr6 _ hsh6; have HO6 := Lib.hid hown6; have HG6 := Lib.hid hgr6; have HH6 := Lib.hid hsh6; clear hown6 hgr6 hsh6))
        obtain ⟨hne1, hwf1⟩ := wfI_next HRL.out.wf (by omega)
        have HR2 : Hid (RL w s o e0 qb lb g pb mb mc r (cm ++ [T]) p n nc DC lv v' w6) := Lib.hid (by
          have H := HRL.out
          have h9 := ((HPM.out.alloc (.cells #[.int .i64 4, .int .i64 P, .string T] 121)).alloc (.cells #[.string T] 9))
          have b1 := H.b1
          have b2 := H.b2
          have b3 := H.b3
          have b4 := H.b4
          simp at b1 b2 b3 b4
          refine ⟨h9.addCm T HO6.out HG6.out HH6.out, ((((HITr.out hne1).alloc _).alloc _).grown h9.cmr HG6.out), hwf1, ?_, fun x hx => H.txt x (List.mem_cons_of_mem _ hx), by simp; omega, by omega, by omega, by omega⟩
          have e := H.law
          unfold parL at e
          rw [if_neg h1, if_pos h4, hT] at e
          exact e)
        go_roundg r.length
        case measure => simp
        case rel => exact ⟨r, cm ++ [T], p, n, nc, DC, lv, rfl, HR2⟩
      have h2 : x.kind = 2 := by omega
      have HV : Hid (itemV x = .agg #[.int .i64 2, .int .i64 P, .string T]) := Lib.hid (by unfold itemV; rw [hP, hT, h2]; rfl)
      obtain ⟨hne1, hwf1⟩ := wfI_next HRL.out.wf (by omega)
      obtain ⟨y, r2, rfl⟩ : ∃ y r2, r = y :: r2 := by
        cases r with
        | nil => exact absurd rfl hne1
        | cons y r2 => exact ⟨y, r2, rfl⟩
      obtain ⟨G, cap, hshp⟩ := HRL.out.pm.shp
      obtain ⟨L, hL⟩ : ∃ L, cm.length = L := ⟨_, rfl⟩
      rw [hL] at hshp
      subst hshp
      have hTs : T.size ≤ maxLen := by
        have := HRL.out.txt x List.mem_cons_self
        rw [hT] at this
        unfold maxLen
        omega
      obtain ⟨hb, hhb⟩ : ∃ hb, Maps.has p.D (.string T.data.toList) = hb := ⟨_, rfl⟩
      have HHB : Hid (Maps.has p.D (keyL8 T) = hb) := Lib.hid hhb
      cases hb
      case' true =>
        go_wp2_with (first | (go_at_call 95; (try rw [hz]); (with_reducible refine HTK.out.mono ?_); rintro e w5 ⟨hok, _⟩; obtain ⟨rfl, hpm, hit, hsz, hkp⟩ := hok (by rw [h2]; decide); rw [HV.out]; have c3 := (fun o => (pq_cells (hpm.alloc o).pq).1); have c5 := (fun o => (pq_cells (hpm.alloc o).pq).2.2.1); have HPM := Lib.hid hpm; have HITr := Lib.hid (hit hne1); clear hok hpm hit hkp; dsimp only) | (at_lookup; refine wpList_lookup_own_ok _ rfl _ _ 83 rfl 9 9 lawS Tryz.underlying83 (plainElem Tryz.prog 9) (zeroS _) (.lit (.string [])) [] (plainElem_string Tryz.underlying9 (by unfold maxLen; decide)) mb n p.D rfl (HPM.out.alloc _).pq.mp _ _ rfl (WideMaps.keyOf_string_mk Tryz.underlying9 hTs) ?_; intro v0 ps0 hv0; rw [hhb]))
        obtain ⟨D, hD⟩ : ∃ D, w5.heap.size = D := ⟨_, rfl⟩
        have hDn := heap_alloc_new w5 (.cells #[.int .i64 2, .int .i64 P, .string T] 121)
        rw [hD] at hDn
        have hpw := HPM.out.alloc (.cells #[.int .i64 2, .int .i64 P, .string T] 121)
        have hiw := HITr.out.alloc (.cells #[.int .i64 2, .int .i64 P, .string T] 121)
        obtain ⟨W, hW⟩ : ∃ W, w5.alloc (.cells #[.int .i64 2, .int .i64 P, .string T] 121) = W := ⟨_, rfl⟩
        have hg : g ≠ D := fun e => by have := HITr.out.lt.2; omega
        rw [hW] at hDn hpw hiw
        (try rw [hD]); rw [hW]
        have HPW : Hid (PM w e0 qb lb pb mb mc n nc (addK p T) DC lv (.slice (some ⟨G, 0, none⟩) L cap) cm W) := Lib.hid (by unfold addK; rw [HHB.out]; exact hpw)
        have HITW := Lib.hid hiw
        have HDW := Lib.hid hDn
        have hWs : W.heap.size = D + 1 := by rw [← hW]; simp [hD]
        have HTK3 := Lib.hid (HPW.out.take HITW.out [3, 1] #[.int .i64 3, .int .i64 1] 2 rfl (by omega) (fun i k hk => by
          match i, hk with
          | 0, hk => simp at hk; subst hk; rfl
          | 1, hk => simp at hk; subst hk; rfl
          | (i + 2), hk => simp at hk))
        rw [hWs] at HTK3
        obtain ⟨E, hE⟩ : ∃ E, D + 1 = E := ⟨_, rfl⟩
        rw [hE] at HTK3 hWs ⊢
        have hkl : (addK p T).ks.length ≤ p.ks.length + 1 := by unfold addK; rw [HHB.out]; exact Nat.le_succ _
        clear hpw hiw hDn hW c3 c5 hv0
      case' false =>
        go_wp2_with (first | (go_at_call 95; (try rw [hz]); (with_reducible refine HTK.out.mono ?_); rintro e w5 ⟨hok, _⟩; obtain ⟨rfl, hpm, hit, hsz, hkp⟩ := hok (by rw [h2]; decide); rw [HV.out]; have c3 := (fun o => (pq_cells (hpm.alloc o).pq).1); have c5 := (fun o => (pq_cells (hpm.alloc o).pq).2.2.1); have HPM := Lib.hid hpm; have HITr := Lib.hid (hit hne1); clear hok hpm hit hkp; dsimp only) | (at_lookup; refine wpList_lookup_own_ok _ rfl _ _ 83 rfl 9 9 lawS Tryz.underlying83 (plainElem Tryz.prog 9) (zeroS _) (.lit (.string [])) [] (plainElem_string Tryz.underlying9 (by unfold maxLen; decide)) mb n p.D rfl (HPM.out.alloc _).pq.mp _ _ rfl (WideMaps.keyOf_string_mk Tryz.underlying9 hTs) ?_; intro v0 ps0 hv0; rw [hhb]) | (at_builtin; refine wpList_append_own_at _ rfl _ _ 22 rfl w.heap.size 9 i0 (.string ⟨#[]⟩) 1 16 Tryz.underlying22 hi hz0 hz1 hz2 rfl (by decide) lv p.ks.length (p.ks.map Value.string) rfl ((HPM.out.alloc _).alloc _).pq.row ⟨w5.heap.size + 1, 0, none⟩ 1 1 [.string T] rfl rfl (by have := cell_one_new (w5.alloc (.cells #[.int .i64 2, .int .i64 P, .string T] 121)) (.string T) 9; simpa using this) (by intro u hu; simp at hu; subst hu; rfl) (by have := HRL.out.b2; simp at this; unfold maxLen; omega) (by have := HRL.out.b2; simp at this; omega) (by have := HPM.out.bel.size; simp; omega) ?_; intro lv' w6 hown6 hgr6 _ hsh6; obtain ⟨g9, cap9, rfl⟩ := row_sl hown6; have HO6 := Lib.hid hown6; have HG6 := Lib.hid hgr6; have HH6 := Lib.hid hsh6; obtain ⟨hpb6, y5, z5⟩ := ((HPM.out.alloc (.cells #[.int .i64 2, .int .i64 P, .string T] 121)).alloc (.cells #[.string T] 9)).keyBlk hgr6; have HPB6 := Lib.hid hpb6; clear hpb6; clear hown6 hgr6 hsh6))
        obtain ⟨D, hD⟩ : ∃ D, w5.heap.size = D := ⟨_, rfl⟩
        have hDn := heap_alloc_new w5 (.cells #[.int .i64 2, .int .i64 P, .string T] 121)
        rw [hD] at hDn
        have h59 := ((HPM.out.alloc (.cells #[.int .i64 2, .int .i64 P, .string T] 121)).alloc (.cells #[.string T] 9))
        have hDn2 := (HG6.out.block D (by simp [hD]; omega) (fun e => by
          obtain ⟨cs, h3⟩ := row_cells h59.pq.row e.symm
          have h4 := (Below.heap_alloc (w5.alloc (.cells #[.int .i64 2, .int .i64 P, .string T] 121)) (.cells #[.string T] 9) D (by simp [hD])).trans hDn
          exact ne_ty h4 h3 (by decide) rfl)).trans ((Below.heap_alloc (w5.alloc (.cells #[.int .i64 2, .int .i64 P, .string T] 121)) (.cells #[.string T] 9) D (by simp [hD])).trans hDn)
        have hDn3 := (Below.heap_setCell w6 ⟨pb, 5, none⟩ (.slice (some ⟨g9, 0, none⟩) (p.ks.length + 1) cap9) D (ne_ty hDn2 HPB6.out (by decide))).trans hDn2
        have hpw := h59.addKey T HO6.out HG6.out HH6.out
        have hiw := (((HITr.out.alloc (.cells #[.int .i64 2, .int .i64 P, .string T] 121)).alloc (.cells #[.string T] 9)).grown h59.pq.row HG6.out).setPb (i := 5) (u := .slice (some ⟨g9, 0, none⟩) (p.ks.length + 1) cap9) HPB6.out
        obtain ⟨W, hW⟩ : ∃ W, w6.setCell ⟨pb, 5, none⟩ (.slice (some ⟨g9, 0, none⟩) (p.ks.length + 1) cap9) = W := ⟨_, rfl⟩
        have hg : g ≠ D := fun e => by have := HITr.out.lt.2; omega
        rw [hW] at hDn3 hpw hiw
        (try rw [hD]); rw [hW]
        have HPW : Hid (PM w e0 qb lb pb mb mc n nc (addK p T) DC (.slice (some ⟨g9, 0, none⟩) (p.ks.length + 1) cap9) (.slice (some ⟨G, 0, none⟩) L cap) cm W) := Lib.hid (by unfold addK; rw [HHB.out]; exact hpw)
        have HITW := Lib.hid hiw
        have HDW := Lib.hid hDn3
        have hWs : W.heap.size = w6.heap.size := by rw [← hW]; simp [World.setCell]
        have HTK3 := Lib.hid (HPW.out.take HITW.out [3, 1] #[.int .i64 3, .int .i64 1] 2 rfl (by omega) (fun i k hk => by
          match i, hk with
          | 0, hk => simp at hk; subst hk; rfl
          | 1, hk => simp at hk; subst hk; rfl
          | (i + 2), hk => simp at hk))
        rw [hWs] at HTK3
        obtain ⟨E, hE⟩ : ∃ E, w6.heap.size = E := ⟨_, rfl⟩
        rw [hE] at HTK3 hWs ⊢
        have hkl : (addK p T).ks.length ≤ p.ks.length + 1 := by unfold addK; rw [HHB.out]; simp
        clear hpw hiw hDn hDn2 hDn3 h59 hW c3 c5 hv0 y5 z5
      all_goals
        obtain ⟨PY, hPY⟩ : ∃ P : Int, (y.pos : Int) = P := ⟨_, rfl⟩
        obtain ⟨TY, hTY⟩ : ∃ T, y.text = T := ⟨_, rfl⟩
        have hTYs : TY.size ≤ maxLen := by
          have := HRL.out.txt y (List.mem_cons_of_mem _ List.mem_cons_self)
          rw [hTY] at this
          unfold maxLen
          omega
        have hDl : D ≠ lb := by
          obtain ⟨c9, h9⟩ := HITW.out.lex
          exact ne_ty HDW.out h9 (by decide)
        have hDlt : D < W.heap.size := lx_lt HDW.out
        by_cases hy : ¬ (y.kind = 1 ∨ y.kind = 3)
        · refine HTK3.out.mono ?_
          rintro e w7 ⟨_, hbad⟩
          obtain ⟨N, rfl, hb5, hb6⟩ := hbad (by intro h; simp at h; omega)
          have ho : o = none := by
            rw [← HRL.out.law]
            unfold parL
            rw [if_neg h1, if_neg h4, if_pos h2]
            dsimp only
            rw [if_neg (by omega), if_neg (by omega)]
          subst ho
          have he := HRL.out.pm.le.1
          change bodyPostD Tryz.prog Tryz.f77 (ParPost none w) (Exit.panic [{ v := .iface 194 (.pointer (some ⟨N, 0, none⟩)), recovered := false }]) _ _
          exact door_pan w e0 qb pb N _ _ rfl rfl rfl rfl he hb5 hb6
        · obtain ⟨KY, hKY⟩ : ∃ K : Int, (y.kind : Int) = K := ⟨_, rfl⟩
          have HVY : Hid (itemV y = .agg #[.int .i64 KY, .int .i64 PY, .string TY]) := Lib.hid (by unfold itemV; rw [hPY, hTY, hKY])
          refine HTK3.out.mono ?_
          rintro e w7 ⟨hok, _⟩
          obtain ⟨rfl, hpm, hit, hsz, hkp⟩ := hok (by simp; omega)
          have hd7 := (hkp D (by omega) hDl).trans HDW.out
          obtain ⟨k0, k1, k2, k3, k4, k5⟩ := tok_cells hd7
          obtain ⟨W8, hW8, hd8, hs8, hk8, hb8⟩ := tok_set hd7 (.int .i64 KY) (.int .i64 PY) (.string TY)
          have hpm8 := hpm.tok hd7 hs8 hk8 (hpm.bel.trans (hb8 _ (by have := HPM.out.bel.size; omega)))
          obtain ⟨l0, l1, l2, _, _, _⟩ := tok_cells hd8
          obtain ⟨l3, l4, _, _⟩ := pq_cells hpm8.pq
          have HPM8 := Lib.hid hpm8
          have HIT8 : Hid (r2 ≠ [] → IT lb g s r2 W8) := Lib.hid (fun hr => (hit hr).keep (hk8 lb (fun e => hDl e.symm)) (hk8 g hg))
          have HD8 := Lib.hid hd8
          have B1 := HRL.out.b1
          have B2 := HRL.out.b2
          have B3 := HRL.out.b3
          have B4 := HRL.out.b4
          simp at B1 B2 B3 B4
          clear hok hpm hit hkp hd7 hd8 hk8 hb8 hpm8
          rw [HVY.out]
          dsimp only
          by_cases hy1 : y.kind = 1
          · have hlaw : o = some (putV (addC (addK p T) T cm) T emptyB) := by
              have e := HRL.out.law
              unfold parL at e
              rw [if_neg h1, if_neg h4, if_pos h2] at e
              dsimp only at e
              rw [if_pos hy1, hT] at e
              exact e.symm
            obtain rfl : KY = 1 := by omega
            by_cases hL0 : L = 0
            · obtain rfl : cm = [] := List.length_eq_zero_iff.1 (by omega)
              subst hL0
              go_wp2_with (first | (rw [hW8]) | (at_mapUpdate; refine wpList_mapUpdate_own _ rfl _ _ _ 83 rfl 9 9 lawS Tryz.underlying83 (plainElem Tryz.prog 9) mb n _ rfl HPM8.out.pq.mp (by have := HRL.out.b3; unfold maxLen; omega) _ _ _ rfl rfl (WideMaps.keyOf_string_mk Tryz.underlying9 hTs) _ [] (plainElem_string Tryz.underlying9 (by show (0 : Nat) ≤ _; omega)) ?_; intro w11 ho11 hg11; have HPF := Lib.hid (HPM8.out.putD T emptyB ho11 hg11); have HGF := Lib.hid hg11; clear ho11 hg11))
              go_step3
              exact ⟨rfl, putV (addK p T) T emptyB, pb, mb, mc, n + 1, nc, DC, _, qb, hlaw, rfl, rfl, rfl, rfl, HPF.out.pq, HPF.out.cr.keep (fun _ _ _ _ _ => rfl) (.inl rfl) (.inr fun g e => by cases e), HPF.out.bel, HPF.out.le.1, HPF.out.er⟩
            · have hLp : (0 : Int) < (L : Int) := by omega
              have hcm : cm ≠ [] := fun e => hL0 (by rw [← hL, e]; rfl)
              unfold addC at hlaw
              rw [if_neg hcm] at hlaw
              go_wp2_with (first | (rw [hW8]) | (at_mapUpdate; refine wpList_mapUpdate_own _ rfl _ _ _ 84 rfl 9 22 lawS Tryz.underlying84 rawR mc nc DC rfl HPM8.out.pq.cp (by have := HRL.out.b4; unfold maxLen; omega) _ _ _ rfl rfl (WideMaps.keyOf_string_mk Tryz.underlying9 hTs) _ [] rfl ?_; intro w9 ho9 hg9; have HPM9 := Lib.hid (HPM8.out.putC T ho9 hg9); have HIT9 := Lib.hid (fun hr => ((HIT8.out hr).grownM (mpc_is HPM8.out.pq.cp) hg9).alloc (.cells #[] 9)); have hd9 := (Below.heap_alloc w9 (.cells #[] 9) D (Nat.lt_of_lt_of_le (lx_lt HD8.out) hg9.size)).trans ((hg9.block D (lx_lt HD8.out) (fun e => ne_map (mpc_is HPM8.out.pq.cp) HD8.out (Option.some.inj e).symm)).trans HD8.out); obtain ⟨a0, a1, a2, _, _, _⟩ := tok_cells hd9; obtain ⟨a3, _, _, _⟩ := pq_cells HPM9.out.pq; obtain ⟨E9, hE9⟩ : ∃ E9, w9.heap.size = E9 := ⟨_, rfl⟩; obtain ⟨W10, hW10⟩ : ∃ W10, w9.alloc (.cells #[] 9) = W10 := ⟨_, rfl⟩; rw [hW10] at HPM9 HIT9 a0 a1 a2 a3; rw [hE9] at HPM9; clear hd9 ho9 hg9) | (rw [hW10]) | (rw [hE9]) | (at_mapUpdate; refine wpList_mapUpdate_own _ rfl _ _ _ 83 rfl 9 9 lawS Tryz.underlying83 (plainElem Tryz.prog 9) mb n _ rfl HPM9.out.pq.mp (by have := HRL.out.b3; unfold maxLen; omega) _ _ _ rfl rfl (WideMaps.keyOf_string_mk Tryz.underlying9 hTs) _ [] (plainElem_string Tryz.underlying9 (by show (0 : Nat) ≤ _; omega)) ?_; intro w11 ho11 hg11; have HPF := Lib.hid (HPM9.out.putD T emptyB ho11 hg11); have HGF := Lib.hid hg11; clear ho11 hg11))
              go_step3
              exact ⟨rfl, _, pb, mb, mc, n + 1, nc + 1, _, _, qb, hlaw, rfl, rfl, rfl, rfl, HPF.out.pq, HPF.out.cr.keep (fun _ _ _ _ _ => rfl) (.inl rfl) (.inr fun g e => by cases e), HPF.out.bel, HPF.out.le.1, HPF.out.er⟩
          · have hy3 : y.kind = 3 := by omega
            have hlaw : parL r2 [] (putV (addC (addK p T) T cm) T TY) = o := by
              have e := HRL.out.law
              unfold parL at e
              rw [if_neg h1, if_neg h4, if_pos h2] at e
              dsimp only at e
              rw [if_neg hy1, if_pos hy3, hT, hTY] at e
              exact e
            obtain rfl : KY = 3 := by omega
            obtain ⟨hne2, hwf2⟩ := wfI_next hwf1 (by omega)
            have htx : ∀ x ∈ r2, x.text.size ≤ 10000000 := fun x hx => HRL.out.txt x (List.mem_cons_of_mem _ (List.mem_cons_of_mem _ hx))
            by_cases hL0 : L = 0
            · obtain rfl : cm = [] := List.length_eq_zero_iff.1 (by omega)
              subst hL0
              go_wp2_with (first | (rw [hW8]))
              go_still_tail 7, (by kernel_rfl)
              obtain ⟨V9, hV9⟩ : ∃ V : World, ({ heap := W8.heap, tape := W8.tape, drawn := W8.drawn + 1, os := W8.os, output := W8.output } : World) = V := ⟨_, rfl⟩
              have hbV : Below W8.heap.size W8 V9 := by rw [← hV9]; exact Below.drew (Below.refl _ W8)
              rw [hV9]
              have HPV := Lib.hid (HPM8.out.below hbV)
              have HITV := Lib.hid ((HIT8.out hne2).below hbV)
              clear hbV hV9
              go_wp2_with (at_mapUpdate; refine wpList_mapUpdate_own _ rfl _ _ _ 83 rfl 9 9 lawS Tryz.underlying83 (plainElem Tryz.prog 9) mb n _ rfl HPV.out.pq.mp (by have := HRL.out.b3; unfold maxLen; omega) _ _ _ rfl rfl (WideMaps.keyOf_string_mk Tryz.underlying9 hTs) _ [] (plainElem_string Tryz.underlying9 hTYs) ?_; intro w11 ho11 hg11; have HPF := Lib.hid (HPV.out.putD T TY ho11 hg11); have HGF := Lib.hid hg11; clear ho11 hg11)
              have HR2 : Hid (RL w s o e0 qb lb g pb mb mc r2 [] (putV (addK p T) T TY) (n + 1) nc DC _ (.slice (some ⟨G, 0, none⟩) 0 cap) w11) := Lib.hid ⟨HPF.out, HITV.out.grownM (mp_is HPV.out.pq.mp) HGF.out, hwf2, hlaw, htx, by simp; omega, by show (addK p T).ks.length + _ ≤ _; omega, by omega, by omega⟩
              go_roundg r2.length
              case measure => simp; omega
              case rel => exact ⟨r2, [], _, _, _, _, _, rfl, HR2⟩
            · have hLp : (0 : Int) < (L : Int) := by omega
              have hcm : cm ≠ [] := fun e => hL0 (by rw [← hL, e]; rfl)
              unfold addC at hlaw
              rw [if_neg hcm] at hlaw
              go_wp2_with (first | (rw [hW8]) | (at_mapUpdate; refine wpList_mapUpdate_own _ rfl _ _ _ 84 rfl 9 22 lawS Tryz.underlying84 rawR mc nc DC rfl HPM8.out.pq.cp (by have := HRL.out.b4; unfold maxLen; omega) _ _ _ rfl rfl (WideMaps.keyOf_string_mk Tryz.underlying9 hTs) _ [] rfl ?_; intro w9 ho9 hg9; have HPM9 := Lib.hid (HPM8.out.putC T ho9 hg9); have HIT9 := Lib.hid (fun hr => ((HIT8.out hr).grownM (mpc_is HPM8.out.pq.cp) hg9).alloc (.cells #[] 9)); have hd9 := (Below.heap_alloc w9 (.cells #[] 9) D (Nat.lt_of_lt_of_le (lx_lt HD8.out) hg9.size)).trans ((hg9.block D (lx_lt HD8.out) (fun e => ne_map (mpc_is HPM8.out.pq.cp) HD8.out (Option.some.inj e).symm)).trans HD8.out); obtain ⟨a0, a1, a2, _, _, _⟩ := tok_cells hd9; obtain ⟨a3, _, _, _⟩ := pq_cells HPM9.out.pq; obtain ⟨E9, hE9⟩ : ∃ E9, w9.heap.size = E9 := ⟨_, rfl⟩; obtain ⟨W10, hW10⟩ : ∃ W10, w9.alloc (.cells #[] 9) = W10 := ⟨_, rfl⟩; rw [hW10] at HPM9 HIT9 a0 a1 a2 a3; rw [hE9] at HPM9; clear hd9 ho9 hg9) | (rw [hW10]) | (rw [hE9]))
              go_still_tail 7, (by kernel_rfl)
              obtain ⟨V9, hV9⟩ : ∃ V : World, ({ heap := W10.heap, tape := W10.tape, drawn := W10.drawn + 1, os := W10.os, output := W10.output } : World) = V := ⟨_, rfl⟩
              have hbV : Below W10.heap.size W10 V9 := by rw [← hV9]; exact Below.drew (Below.refl _ W10)
              rw [hV9]
              have HPV := Lib.hid (HPM9.out.below hbV)
              have HITV := Lib.hid ((HIT9.out hne2).below hbV)
              clear hbV hV9
              go_wp2_with (at_mapUpdate; refine wpList_mapUpdate_own _ rfl _ _ _ 83 rfl 9 9 lawS Tryz.underlying83 (plainElem Tryz.prog 9) mb n _ rfl HPV.out.pq.mp (by have := HRL.out.b3; unfold maxLen; omega) _ _ _ rfl rfl (WideMaps.keyOf_string_mk Tryz.underlying9 hTs) _ [] (plainElem_string Tryz.underlying9 hTYs) ?_; intro w11 ho11 hg11; have HPF := Lib.hid (HPV.out.putD T TY ho11 hg11); have HGF := Lib.hid hg11; clear ho11 hg11)
              have HR2 : Hid (RL w s o e0 qb lb g pb mb mc r2 [] (putV { (addK p T) with cf := updC (addK p T).cf T cm } T TY) (n + 1) (nc + 1) _ _ (.slice (some ⟨E9, 0, none⟩) 0 0) w11) := Lib.hid ⟨HPF.out, HITV.out.grownM (mp_is HPV.out.pq.mp) HGF.out, hwf2, hlaw, htx, by simp; omega, by show (addK p T).ks.length + _ ≤ _; omega, by omega, by omega⟩
              go_roundg r2.length
              case measure => simp; omega
              case rel => exact ⟨r2, [], _, _, _, _, _, rfl, HR2⟩
end Go.Proofs.YtackciefmdiphaaGreatDoor
