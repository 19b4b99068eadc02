/- properties.expand: the walk. -/
import Derived.Test.YtackciefmdiphaaDoorExpI
import Derived.Test.YtackciefmdiphaaDoorLexLit
import Derived.Deep.QuietTactic
set_option linter.unusedVariables false
namespace Go.Proofs.YtackciefmdiphaaDoor
open Go.RowKit Plain Go.Maps

def dlB : ByteArray := ⟨#[36, 123]⟩
def brB : ByteArray := ⟨#[125]⟩
def memK (key : ByteArray) (keys : List ByteArray) : Bool := keys.any fun k => key.toList == k.toList
/-- a value expanded (by fuel); within: none: an error -/
def expF (D : ByteArray → ByteArray) : Nat → List ByteArray → ByteArray → Option (Option ByteArray)
  | 0, _, _ => none
  | f + 1, keys, s =>
    if s.size ≤ 1152921504606846976 then
      if 64 < keys.length then some none
      else match zix s dlB with
      | none => some (some s)
      | some p => match zix (s.extract (p + 2) s.size) brB with
        | none => some none
        | some q =>
          if memK (s.extract (p + 2) (p + 2 + q)) keys then some none
          else match expF D f (keys ++ [s.extract (p + 2) (p + 2 + q)]) (D (s.extract (p + 2) (p + 2 + q))) with
          | none => none
          | some none => some none
          | some (some v) => expF D f keys (s.extract 0 p ++ v ++ s.extract (p + 2 + q + 1) s.size)
    else none
theorem expF_size (D : ByteArray → ByteArray) : ∀ (f : Nat) (keys : List ByteArray) (s r : ByteArray), expF D f keys s = some (some r) → r.size ≤ 1152921504606846976 := by
  intro f
  induction f with
  | zero => intro keys s r h; cases h
  | succ f ih =>
    intro keys s r h
    unfold expF at h
    by_cases h1 : s.size ≤ 1152921504606846976
    · rw [if_pos h1] at h
      by_cases h2 : 64 < keys.length
      · rw [if_pos h2] at h
        cases h
      · rw [if_neg h2] at h
        cases hp : zix s dlB with
        | none =>
          rw [hp] at h
          injection h with h
          injection h with h
          subst h
          exact h1
        | some p =>
          rw [hp] at h
          dsimp only at h
          cases hq : zix (s.extract (p + 2) s.size) brB with
          | none => rw [hq] at h; cases h
          | some q =>
            rw [hq] at h
            dsimp only at h
            split at h
            · cases h
            · split at h
              · cases h
              · cases h
              · exact ih _ _ _ h
    · rw [if_neg h1] at h
      cases h
theorem wl_app {ops : Array Oper} {rest : List Oper} {o : Oper} {a : Act} {w : World} {Q : Exit → Act → World → Prop} (hgd : o.guard = none) (s x : Operand) (t : TypeId)
    (ho : o.op = .call { callee := .builtin .append, args := #[s, x], argTypes := #[t, t] }) (v src : Value) (hs : a.eval s = v) (hx : a.eval x = src) (F : Value → World → Prop)
    (hrun : ∃ v' w', (Builtin.append_ #[t, t] o.type #[v, src]).run Tryd.prog w = .ok v' w' ∧ F v' w') (h : ∀ v' w', F v' w' → wpList Tryd.prog ops Q rest (a.put o.dst v') w') :
    wpList Tryd.prog ops Q (o :: rest) a w := by
  refine wpList_plain hgd fun K hK => ?_
  obtain ⟨v', w', hr, hF⟩ := hrun
  unfold Oper.wp execOp
  simp only [ho, resolve, invoke, builtin, Sem.run_bind, Sem.run_pure, Result.andThen_ok, List.map_toArray, List.map_cons, List.map_nil, hs, hx, hr]
  exact hK _ _ (h v' w' hF)
/-- one text behind a row of texts, in its place or in a new one: what may go on then, and that the old row stands behind it -/
theorem app_key {y : World} {B g n cap Z : Nat} {xs : List Value} {k : ByteArray} (ty : TypeId) (h : y.ownsRow B 9 1 (.slice (some ⟨g, 0, none⟩) n cap) n xs) (hZ : y.heap[Z]? = some (.cells #[.string k] 9 (0, 0))) (hn : n ≤ 1000) :
    ∃ v' y', (Builtin.append_ #[24, 24] ty #[.slice (some ⟨g, 0, none⟩) n cap, .slice (some ⟨Z, 0, none⟩) 1 1]).run Tryd.prog y = .ok v' y' ∧ ∃ g2 c2, v' = .slice (some ⟨g2, 0, none⟩) (n + 1) c2 ∧ y'.ownsRow B 9 1 (.slice (some ⟨g2, 0, none⟩) (n + 1) c2) (n + 1) (xs ++ [.string k]) ∧ y.grownBy y' (some g) ∧
      ∀ w'', y'.grownBy w'' (some g2) → w''.ownsRow B 9 1 (.slice (some ⟨g2, 0, none⟩) (n + 1) c2) (n + 1) (xs ++ [.string k]) → y.grownBy w'' (some g) ∧ w''.ownsRow B 9 1 (.slice (some ⟨g, 0, none⟩) n cap) n xs := by
  obtain ⟨i0, hi, hz0, hz1, hz2⟩ := info_parts infoStr
  have hxl : xs.length = n := by simpa using h.1
  have hnews : ∀ j u, ([.string k] : List Value)[j]? = some u → y.cell? ((⟨Z, 0, none⟩ : Addr).add j) = some u := by
    intro j u hu
    rw [add_at, Nat.zero_add]
    simp only [World.cell?, hZ]
    simpa using hu
  rcases h.2 with ⟨hv, _⟩ | ⟨g', cap', cur, hv, hbg, hg, hnc, hcm, hcs, htake⟩
  · cases hv
  injection hv with hv1 _ hv3
  injection hv1 with hv1
  injection hv1 with hv1
  subst hv1
  subst hv3
  by_cases hroom : n + 1 ≤ cap
  · have hr := run_append_room (P := Tryd.prog) y 24 ty 9 i0 Tryd.underlying24 hi g n cap cur hg ⟨Z, 0, none⟩ 1 1 [.string k] (by simp [hz1]) hnews (by intro u hu; simp at hu; subst hu; rfl) hroom (by rw [hz1, hcs]; simp; omega)
    rw [hz1] at hr
    have hrow' : (y.setRow g (cur.toList.take (n * 1) ++ [Value.string k] ++ cur.toList.drop (n * 1 + [Value.string k].length)).toArray).ownsRow B 9 1 (.slice (some ⟨g, 0, none⟩) (n + 1) cap) (n + 1) (xs ++ [.string k]) := by
      refine ⟨by simp [hxl], .inr ⟨g, cap, _, rfl, hbg, setRow_heap y g cur _ _ _ hg, hroom, hcm, ?_, ?_⟩⟩
      · have h9 : cur.toList.length = cap * 1 := by rw [Array.length_toList, hcs]
        simp only [List.size_toArray, List.length_append, List.length_take, List.length_drop, h9, List.length_cons, List.length_nil]
        omega
      · rw [htake]
        simp only [List.append_assoc]
        rw [← List.append_assoc, List.take_left' (by simp [hxl])]
    have hgr : y.grownBy (y.setRow g (cur.toList.take (n * 1) ++ [Value.string k] ++ cur.toList.drop (n * 1 + [Value.string k].length)).toArray) (some g) := ⟨rfl, rfl, rfl, by simp, fun j _ hj => setRow_other y g j _ (fun e => hj (by rw [e]))⟩
    refine ⟨_, _, hr, g, cap, rfl, hrow', hgr, fun w'' h1 h2 => ⟨hgr.trans h1, h.1, .inr ?_⟩⟩
    rcases h2.2 with ⟨hv, _⟩ | ⟨g3, cap3, cur3, hv, q1, q2, q3, q4, q5, q6⟩
    · cases hv
    injection hv with hv1 _ hv3
    injection hv1 with hv1
    injection hv1 with hv1
    subst hv1
    subst hv3
    refine ⟨g, cap, cur3, rfl, q1, q2, hnc, q4, q5, ?_⟩
    have h3 := congrArg (List.take n) q6
    rw [List.take_take, Nat.mul_one, Nat.min_eq_left (by omega), List.take_left' hxl] at h3
    rw [Nat.mul_one]
    exact h3
  · have hr := run_append_grow (P := Tryd.prog) y 24 ty 9 i0 (.string ⟨#[]⟩) Tryd.underlying24 hi hz0 ⟨g, 0, none⟩ n cap xs (by rw [hz1]; simp [hxl]) (h.cells rfl) ⟨Z, 0, none⟩ 1 1 [.string k] (by simp [hz1]) hnews (by omega) (by omega) (growslice_fits (by omega) (by rw [hz2]; omega))
    have hge := grownCap_ge y (n + 1) cap 9
    have hcm' : grownCap y (n + 1) cap 9 ≤ maxLen := grownCap_le_maxLen y (n + 1) cap 9 (by unfold maxLen; omega)
    obtain ⟨y', hy'⟩ : ∃ y', (y.drew.alloc (.cells (xs.toArray ++ [Value.string k].toArray ++ Builtin.zeroCells (Value.string ⟨#[]⟩).cells (grownCap y (n + 1) cap 9 - (n + 1))) 9)) = y' := ⟨_, rfl⟩
    have hgr : y.grownBy y' none := hy' ▸ ⟨rfl, rfl, rfl, by simp, fun j hj _ => heap_alloc_old y.drew _ hj⟩
    have hblk : y'.heap[y.heap.size]? = some (.cells (xs.toArray ++ [Value.string k].toArray ++ Builtin.zeroCells (Value.string ⟨#[]⟩).cells (grownCap y (n + 1) cap 9 - (n + 1))) 9 (0, 0)) := hy' ▸ heap_alloc_new y.drew _
    have hlt := (row_lt h rfl).2
    have hBs : B ≤ y.heap.size := by have := (row_lt h rfl).1; omega
    have hrow' : y'.ownsRow B 9 1 (.slice (some ⟨y.heap.size, 0, none⟩) (n + 1) (grownCap y (n + 1) cap 9)) (n + 1) (xs ++ [.string k]) := by
      refine ⟨by simp [hxl], .inr ⟨y.heap.size, _, _, rfl, hBs, hblk, hge, hcm', ?_, ?_⟩⟩
      · have hzz : (Value.string ⟨#[]⟩).cells.size = 1 := rfl
        simp only [Array.size_append, List.size_toArray, size_zeroCells, hzz, hxl, List.length_cons, List.length_nil]
        omega
      · simp only [Array.toList_append, List.append_assoc]
        rw [← List.append_assoc, List.take_left' (by simp [hxl])]
    rw [hy'] at hr
    refine ⟨_, _, hr, y.heap.size, _, rfl, hrow', ⟨hgr.os, hgr.tape, hgr.output, hgr.size, fun j hj _ => hgr.block j hj (by simp)⟩, fun w'' h1 h2 => ⟨⟨h1.os.trans hgr.os, h1.tape.trans hgr.tape, h1.output.trans hgr.output, Nat.le_trans hgr.size h1.size, fun j hj _ => (h1.block j (Nat.lt_of_lt_of_le hj hgr.size) (fun e => by have := Option.some.inj e; omega)).trans (hgr.block j hj (by simp))⟩, row_keep (row_keep h (fun j hj => hgr.block j (row_lt h hj).2 (by simp))) (fun j hj => ?_)⟩⟩
    have hjg : j < y.heap.size := (row_lt h hj).2
    exact h1.block j (Nat.lt_of_lt_of_le hjg hgr.size) (fun e => by have := Option.some.inj e; omega)
def ExPost (o : Option ByteArray) (B g n cap : Nat) (keys : List ByteArray) (w : World) (e : Ending) (w' : World) : Prop :=
  w.grownBy w' (some g) ∧ w'.ownsRow B 9 1 (.slice (some ⟨g, 0, none⟩) n cap) n (keys.map Value.string) ∧ match o with
  | some r => e = .returned (.tuple #[.string r, .nilIface])
  | none => ∃ N : Nat, e = .returned (.tuple #[.string ⟨#[]⟩, .iface 85 (.pointer (some ⟨N, 0, none⟩))])
theorem below_grown {w w' : World} (h : Below w.heap.size w w') (row : Option Nat) : w.grownBy w' row := ⟨h.os, h.tape, h.output, h.size, fun j hj _ => h.block j hj⟩
theorem gro3 {w wr w4 : World} {o : Obj} {g : Nat} (h1 : w.grownBy wr (some g)) (h2 : (wr.alloc o).grownBy w4 (some g)) : w.grownBy w4 (some g) := by
  have hz := h2.size
  have h3 : (wr.alloc o).heap.size = wr.heap.size + 1 := by simp
  have hz1 := h1.size
  exact ⟨h2.os.trans h1.os, h2.tape.trans h1.tape, h2.output.trans h1.output, by omega, fun j hj hne => ((h2.block j (by omega) hne).trans (Below.heap_alloc wr o j (Nat.lt_of_lt_of_le hj h1.size))).trans (h1.block j hj hne)⟩
theorem gro_drew {w w4 : World} {g k : Nat} (h : w.grownBy w4 (some g)) : w.grownBy (w4.drewN k) (some g) := ⟨h.os, h.tape, h.output, h.size, h.block⟩
set_option maxHeartbeats 16000000 in
set_option maxRecDepth 100000 in
theorem expand_any (D : DataW Unit) (mb nD B : Nat) : ∀ (f : Nat) (keys : List ByteArray) (s : ByteArray) (o : Option ByteArray) (g n cap : Nat) (w : World), expF (rawOf D) f keys s = some o → keys.length = n → n ≤ 100 → MpS w mb nD D → w.ownsRow B 9 1 (.slice (some ⟨g, 0, none⟩) n cap) n (keys.map Value.string) → B ≤ w.heap.size →
    Calls Tryd.prog 25 #[.string s, .slice (some ⟨g, 0, none⟩) n cap, .string ⟨#[36, 123]⟩, .string ⟨#[125]⟩, .map (some mb)] w (ExPost o B g n cap keys w) := by
  intro f
  induction f using Nat.strongRecOn with
  | _ f ih =>
    intro keys s o g n cap w hex hkn hn hmp hrow hBw
    have HIH := Lib.hid ih
    have HMP := Lib.hid hmp
    have HROW := Lib.hid hrow
    have HKN := Lib.hid hkn
    have HEX := Lib.hid hex
    have HNE : Hid (∀ q y, Calls Tryd.prog 30 #[.string q] y (NewErr q y)) := Lib.hid newErr_any
    have hmg : mb ≠ g := fun e => by
      obtain ⟨es, c, h1⟩ := mp_is hmp
      obtain ⟨cs, h2⟩ := row_cells hrow rfl
      rw [e, h2] at h1
      injection h1 with h1
      exact Obj.noConfusion h1
    clear ih hmp hrow hkn hex
    by_cases h64 : 64 < n
    · have hz64 : (64 : Int) < (n : Int) := by omega
      have ho : o = none := by
        have h := HEX.out
        cases f with
        | zero => cases h
        | succ f =>
          unfold expF at h
          rw [HKN.out] at h
          by_cases h9 : s.size ≤ 1152921504606846976
          · rw [if_pos h9, if_pos h64] at h
            injection h with h
            exact h.symm
          · rw [if_neg h9] at h
            cases h
      subst ho
      go_enter Tryd.func25, Tryd.ntmps25
      go_wp2_with (go_at_call 30; (with_reducible refine (HNE.out _ _).mono ?_); rintro e w1 ⟨N, rfl, _, hb⟩; have HB := Lib.hid hb; clear hb; dsimp only)
      go_ret2
      exact ⟨below_grown HB.out _, row_keep HROW.out (fun j hj => HB.out.block j (row_lt HROW.out hj).2), N, rfl⟩
    have hz64 : ¬ (64 : Int) < (n : Int) := by omega
    go_enter Tryd.func25, Tryd.ntmps25
    go_wp2
    go_loopg [0] f (fun g' v0 wr => ∃ (s' : ByteArray) (f' : Nat), v0 = .string s' ∧ f' ≤ f ∧ g' = f' ∧ Hid (expF (rawOf D) f' keys s' = some o) ∧ Hid (w.grownBy wr (some g)) ∧ Hid (wr.ownsRow B 9 1 (.slice (some ⟨g, 0, none⟩) n cap) n (keys.map Value.string)))
    case atStart => exact ⟨s, f, rfl, Nat.le_refl _, rfl, HEX, Lib.hid ⟨rfl, rfl, rfl, Nat.le_refl _, fun _ _ _ => rfl⟩, HROW⟩
    case round =>
      obtain ⟨s', f', rfl, hff, hgf, HE, HG, HR⟩ := hrel
      cases f' with
      | zero => exact absurd HE.out (by simp [expF])
      | succ f1 =>
        subst hgf
        have h := HE.out
        unfold expF at h
        have hs60 : s'.size ≤ 1152921504606846976 := by
          by_cases h9 : s'.size ≤ 1152921504606846976
          · exact h9
          · rw [if_neg h9] at h
            cases h
        rw [if_pos hs60, HKN.out, if_neg h64] at h
        obtain ⟨m, hm⟩ : ∃ m, s'.size = m := ⟨_, rfl⟩
        rw [hm] at hs60
        have HM := Lib.hid hm
        have HZ := Lib.hid (zzIndex_any s' ⟨#[36, 123]⟩ wr (by rw [hm]; exact hs60) (by decide))
        cases hp : zix s' dlB with
        | none =>
          rw [hp] at h
          have ho : o = some s' := (Option.some.inj h).symm
          subst ho
          have hp' : zix s' ⟨#[36, 123]⟩ = none := hp
          rw [hp'] at HZ
          change Hid (Calls _ _ _ _ fun e w' => e = .returned (.int .i64 (-1)) ∧ _) at HZ
          clear h hp hp' hm
          go_wp2_with (go_at_call 31; (with_reducible refine HZ.out.mono ?_); rintro e w1 ⟨rfl, rfl⟩; dsimp only)
          go_ret2
          exact ⟨HG.out, HR.out, rfl⟩
        | some p =>
          rw [hp] at h
          dsimp only at h
          have hple : p + 2 ≤ m := by have := zix_le hp; rw [hm] at this; exact this
          have hp' : zix s' ⟨#[36, 123]⟩ = some p := hp
          rw [hp'] at HZ
          change Hid (Calls _ _ _ _ fun e w' => e = .returned (.int .i64 (p : Int)) ∧ _) at HZ
          obtain ⟨K2, hK2⟩ : ∃ K, p + 2 = K := ⟨_, rfl⟩
          rw [hK2, hm] at h
          have hKz : (p : Int) + 2 = (K2 : Int) := by omega
          have hKm : (K2 : Int) ≤ (m : Int) := by omega
          have hp1 : ((p : Int) == (-1 : Int)) = false := by rw [beq_eq_false_iff_ne]; omega
          obtain ⟨S2, hS2⟩ : ∃ S, s'.extract K2 m = S := ⟨_, rfl⟩
          have hS2s : S2.size = m - K2 := by rw [← hS2, ByteArray.size_extract, hm, Nat.min_self]
          rw [hS2] at h
          have HZ2 := Lib.hid (zzIndex_any S2 ⟨#[125]⟩ wr (by omega) (by decide))
          cases hq : zix S2 brB with
          | none =>
            rw [hq] at h
            have ho : o = none := (Option.some.inj h).symm
            subst ho
            have hq' : zix S2 ⟨#[125]⟩ = none := hq
            rw [hq'] at HZ2
            change Hid (Calls _ _ _ _ fun e w' => e = .returned (.int .i64 (-1)) ∧ _) at HZ2
            clear h hp hp' hq hq' hK2 hS2s
            go_wp2_with (first
              | (go_at_call 31; first | ((with_reducible refine HZ.out.mono ?_); rintro e w1 ⟨rfl, rfl⟩; dsimp only) | ((with_reducible refine HZ2.out.mono ?_); rintro e w1 ⟨rfl, rfl⟩; dsimp only))
              | (go_at_call 30; (with_reducible refine (HNE.out _ _).mono ?_); rintro e w1 ⟨N, rfl, _, hb⟩; have HB := Lib.hid hb; clear hb; dsimp only))
            go_ret2
            exact ⟨⟨HB.out.os.trans HG.out.os, HB.out.tape.trans HG.out.tape, HB.out.output.trans HG.out.output, Nat.le_trans HG.out.size HB.out.size, fun j hj hne => (HB.out.block j (Nat.lt_of_lt_of_le hj HG.out.size)).trans (HG.out.block j hj hne)⟩, row_keep HR.out (fun j hj => HB.out.block j (row_lt HR.out hj).2), N, rfl⟩
          | some q =>
            rw [hq] at h
            dsimp only at h
            have hqle : q + 1 ≤ m - K2 := by have := zix_le hq; rw [hS2s] at this; exact this
            have hq' : zix S2 ⟨#[125]⟩ = some q := hq
            rw [hq'] at HZ2
            change Hid (Calls _ _ _ _ fun e w' => e = .returned (.int .i64 (q : Int)) ∧ _) at HZ2
            obtain ⟨E, hE⟩ : ∃ E, K2 + q = E := ⟨_, rfl⟩
            obtain ⟨F, hF⟩ : ∃ F, E + 1 = F := ⟨_, rfl⟩
            rw [hE, hF] at h
            have hEz : (K2 : Int) + (q : Int) = (E : Int) := by omega
            have hFz : (E : Int) + 1 = (F : Int) := by omega
            have hFm : (F : Int) ≤ (m : Int) := by omega
            have hEm : (E : Int) ≤ (m : Int) := by omega
            have hKE : (K2 : Int) ≤ (E : Int) := by omega
            have hF1 : (F : Int) - 1 = (E : Int) := by omega
            have hq1 : ((q : Int) == (-1 : Int)) = false := by rw [beq_eq_false_iff_ne]; omega
            obtain ⟨key, hkey⟩ : ∃ S, s'.extract K2 E = S := ⟨_, rfl⟩
            have hkm : key.size ≤ 1152921504606846976 := by rw [← hkey, ByteArray.size_extract, hm]; omega
            rw [hkey] at h
            have H := Lib.hid h
            have HF9 := Lib.hid (show p ≤ m ∧ F ≤ m by omega)
            obtain ⟨W, hWW⟩ : ∃ W, wr = W := ⟨_, rfl⟩
            rw [hWW] at HZ HZ2 HG HR ⊢
            clear h hp hp' hq hq' hK2 hS2s hE hF hple hqle hWW
            go_wp2_with (go_at_call 31; first | ((with_reducible refine HZ.out.mono ?_); rintro e w1 ⟨rfl, rfl⟩; dsimp only) | ((with_reducible refine HZ2.out.mono ?_); rintro e w1 ⟨rfl, rfl⟩; dsimp only))
            have hn1 : n ≤ 64 := by omega
            go_loopg [59] n (fun g' v59 wr => ∃ j : Nat, v59 = .int .i64 (j : Int) ∧ j ≤ n ∧ g' = n - j ∧ Hid (memK key (keys.take j) = false) ∧ wr = w1)
            case atStart => exact ⟨0, rfl, Nat.zero_le _, rfl, Lib.hid rfl, rfl⟩
            case round =>
              obtain ⟨j, rfl, hjn, rfl, HMK, rfl⟩ := hrel
              by_cases hlt : j < n
              · have hjz : (j : Int) < (n : Int) := by omega
                obtain ⟨x, hx⟩ : ∃ x, keys[j]? = some x := ⟨_, List.getElem?_eq_getElem (by have := HKN.out; omega)⟩
                have x0 : wr.cell? ⟨g, j, none⟩ = some (.string x) := by
                  rw [HR.out.cellAt j (by omega)]
                  simp [hx]
                obtain ⟨b, hb⟩ : ∃ b, (key.toList == x.toList) = b := ⟨_, rfl⟩
                have hmem : memK key (keys.take (j + 1)) = (memK key (keys.take j) || b) := by
                  unfold memK
                  rw [List.take_add_one, hx, List.any_append]
                  simp [hb]
                have HMM := Lib.hid hmem
                have HX := Lib.hid (List.mem_of_getElem? hx)
                have HBB := Lib.hid hb
                clear hx hmem
                cases b with
                | true =>
                  have ho : o = none := by
                    have h9 := H.out
                    have hm9 : memK key keys = true := List.any_eq_true.2 ⟨x, HX.out, HBB.out⟩
                    rw [if_pos hm9] at h9
                    exact (Option.some.inj h9).symm
                  subst ho
                  go_wp2_with (go_at_call 30; (with_reducible refine (HNE.out _ _).mono ?_); rintro e w3 ⟨N, rfl, _, hb⟩; have HB := Lib.hid hb; clear hb; dsimp only)
                  go_ret2
                  exact ⟨⟨HB.out.os.trans HG.out.os, HB.out.tape.trans HG.out.tape, HB.out.output.trans HG.out.output, Nat.le_trans HG.out.size HB.out.size, fun j hj hne => (HB.out.block j (Nat.lt_of_lt_of_le hj HG.out.size)).trans (HG.out.block j hj hne)⟩, row_keep HR.out (fun j hj => HB.out.block j (row_lt HR.out hj).2), N, rfl⟩
                | false =>
                  have HMK2 : Hid (memK key (keys.take (j + 1)) = false) := Lib.hid (by rw [HMM.out, HMK.out]; rfl)
                  go_wp2
                  go_roundg (n - (j + 1))
                  case measure => omega
                  case rel => exact ⟨j + 1, by go_num, by omega, rfl, HMK2, rfl⟩
              · have hjz : ¬ (j : Int) < (n : Int) := by omega
                obtain rfl : j = n := by omega
                have h9 := H.out
                have hmf : memK key keys = false := by
                  have := HMK.out
                  rwa [List.take_of_length_le (Nat.le_of_eq HKN.out)] at this
                rw [if_neg (by rw [hmf]; simp)] at h9
                obtain ⟨RK, hRK⟩ : ∃ R, rawOf D key = R := ⟨_, rfl⟩
                rw [hRK] at h9
                have HRK := Lib.hid hRK
                have HMPW : Hid (MpS wr mb nD D) := Lib.hid (mp_keep HMP.out (HG.out.block mb (map_lt (mp_is HMP.out)) (fun e => hmg (Option.some.inj e))))
                have hkm2 : key.size ≤ maxLen := by unfold maxLen; omega
                have hgl : g < wr.heap.size := (row_lt HR.out rfl).2
                have HAP := Lib.hid (app_key (y := wr.alloc (.cells #[.string key] 9)) (Z := wr.heap.size) 24 (k := key) (HR.out.alloc _) (heap_alloc_new wr _) (by omega))
                have hmgW : mb < wr.heap.size := map_lt (mp_is HMPW.out)
                cases hrec : expF (rawOf D) f1 (keys ++ [key]) RK with
                | none => rw [hrec] at h9; cases h9
                | some o2 =>
                  rw [hrec] at h9
                  have HREC := Lib.hid hrec
                  have HCALL : Hid (∀ y' g2 c2, (wr.alloc (.cells #[.string key] 9)).grownBy y' (some g) → y'.ownsRow B 9 1 (.slice (some ⟨g2, 0, none⟩) (j + 1) c2) (j + 1) (keys.map Value.string ++ [.string key]) → Calls Tryd.prog 25 #[.string RK, .slice (some ⟨g2, 0, none⟩) (j + 1) c2, .string ⟨#[36, 123]⟩, .string ⟨#[125]⟩, .map (some mb)] y' (ExPost o2 B g2 (j + 1) c2 (keys ++ [key]) y')) := Lib.hid (fun y' g2 c2 hg hr => by
                    have hmy : MpS y' mb nD D := mp_keep HMPW.out ((hg.block mb (by simp; omega) (fun e => hmg (Option.some.inj e))).trans (Below.heap_alloc wr _ _ hmgW))
                    refine HIH.out f1 (by omega) (keys ++ [key]) RK o2 g2 (j + 1) c2 y' HREC.out (by rw [List.length_append, HKN.out]; rfl) (by omega) hmy (by rw [List.map_append]; exact hr) ?_
                    have h1 := hg.size
                    have h2 : (wr.alloc (.cells #[.string key] 9)).heap.size = wr.heap.size + 1 := by simp
                    have h3 := HG.out.size
                    omega)
                  clear hrec hRK H hmf
                  cases o2 with
                  | none =>
                    have ho : o = none := (Option.some.inj h9).symm
                    subst ho
                    go_wp2_with (first
                      | (at_lookup; refine look_ss _ rfl _ _ rfl mb nD D rfl HMPW.out key rfl hkm2 ?_; intro c hc; have hc' := rawOf_of hc; rw [HRK.out] at hc'; subst hc'; clear hc)
                      | (at_builtin; refine wl_app rfl _ _ 24 rfl (.slice (some ⟨g, 0, none⟩) j cap) (.slice (some ⟨wr.heap.size, 0, none⟩) 1 1) rfl rfl _ HAP.out ?_; rintro v' y' ⟨g2, c2, rfl, hr2, hg2, hcl⟩; have HC := Lib.hid (HCALL.out y' g2 c2 hg2 hr2); have HCL := Lib.hid hcl; clear hr2 hg2 hcl)
                      | (go_at_call 25; (with_reducible refine HC.out.mono ?_); rintro e w4 ⟨hg4, hr4, N, rfl⟩; have HF := Lib.hid (HCL.out w4 hg4 (by rw [List.map_append] at hr4; exact hr4)); clear hg4 hr4; dsimp only))
                    go_ret2
                    exact ⟨gro3 HG.out HF.out.1, HF.out.2, N, rfl⟩
                  | some v =>
                    have hpm : (p : Int) ≤ (m : Int) := by have := HF9.out.1; omega
                    have hwF : IntKind.i64.wrap ((E : Int) + 1) = (F : Int) := by rw [hFz]; exact IntWalk.i64_in _ (by omega)
                    have hvs := expF_size _ _ _ _ _ HREC.out
                    obtain ⟨A1, hA1⟩ : ∃ A, s'.extract 0 p = A := ⟨_, rfl⟩
                    obtain ⟨A2, hA2⟩ : ∃ A, s'.extract F m = A := ⟨_, rfl⟩
                    have hs1 : A1.size ≤ 1152921504606846976 := by rw [← hA1, ByteArray.size_extract, hm]; omega
                    have hs2 : A2.size ≤ 1152921504606846976 := by rw [← hA2, ByteArray.size_extract, hm]; omega
                    have hc1 : (9223372036854775807 < A1.size + v.size) = False := eq_false (by omega)
                    have hc2 : (9223372036854775807 < (A1 ++ v).size + A2.size) = False := eq_false (by rw [ByteArray.size_append]; omega)
                    have hc3 : (9223372036854775807 < A1.size + v.size + A2.size) = False := eq_false (by omega)
                    rw [hA1, hA2] at h9
                    have HN9 := Lib.hid h9
                    clear h9 hvs hs1 hs2
                    go_wp2_with (first
                      | (at_lookup; refine look_ss _ rfl _ _ rfl mb nD D rfl HMPW.out key rfl hkm2 ?_; intro c hc; have hc' := rawOf_of hc; rw [HRK.out] at hc'; subst hc'; clear hc)
                      | (at_builtin; refine wl_app rfl _ _ 24 rfl (.slice (some ⟨g, 0, none⟩) j cap) (.slice (some ⟨wr.heap.size, 0, none⟩) 1 1) rfl rfl _ HAP.out ?_; rintro v' y' ⟨g2, c2, rfl, hr2, hg2, hcl⟩; have HC := Lib.hid (HCALL.out y' g2 c2 hg2 hr2); have HCL := Lib.hid hcl; clear hr2 hg2 hcl)
                      | (go_at_call 25; (with_reducible refine HC.out.mono ?_); rintro e w4 ⟨hg4, hr4, rfl⟩; have HF := Lib.hid (HCL.out w4 hg4 (by rw [List.map_append] at hr4; exact hr4)); clear hg4 hr4; dsimp only))
                    go_quiet (fail)
                    have HE2 : Hid (expF (rawOf D) f1 keys (A1 ++ v ++ A2) = some o) := HN9
                    have HG2 : Hid (w.grownBy (w4.drewN nq) (some g)) := Lib.hid (gro_drew (gro3 HG.out HF.out.1))
                    have HR2 : Hid ((w4.drewN nq).ownsRow B 9 1 (.slice (some ⟨g, 0, none⟩) j cap) j (keys.map Value.string)) := Lib.hid (row_keep HF.out.2 (fun _ _ => rfl))
                    go_wp2
                    go_roundg f1
                    case measure => omega
                    case rel => exact ⟨_, f1, rfl, by omega, rfl, HE2, HG2, HR2⟩
end Go.Proofs.YtackciefmdiphaaDoor
