/- properties.zzIndex: where a text stands first in another one. -/
import Derived.Test.YtackciefmdiphaaGreatDoorLoadP
import Derived.LoopTactic
import Derived.Test.YtackciefmdiphaaGreatDoorLexLit
import Derived.Deep.QuietTactic
import Derived.Test.YtackciefmdiphaaGreatDoorProps
import Derived.Test.YtackciefmdiphaaGreatDoorLoadB
import Derived.Deep.RegionHeld3
import Derived.Test.YtackciefmdiphaaGreatDoorEqPr
import Derived.Test.YtackciefmdiphaaGreatDoorLexF
set_option linter.unusedVariables false
namespace Go.Proofs.YtackciefmdiphaaGreatDoor
open Go.RowKit Plain Go.Maps

/-- where a text stands first, from a place on (by fuel) -/
def zixN (s t : ByteArray) : Nat → Nat → Option Nat
  | 0, _ => none
  | f + 1, i => if i + t.size ≤ s.size then (if (s.extract i (i + t.size)).toList == t.toList then some i else zixN s t f (i + 1)) else none
def zix (s t : ByteArray) : Option Nat := zixN s t (s.size + 2) 0
def zixV (o : Option Nat) : Int := match o with | some i => (i : Int) | none => -1
theorem zixN_le (s t : ByteArray) : ∀ (f i j : Nat), zixN s t f i = some j → i ≤ j ∧ j + t.size ≤ s.size := by
  intro f
  induction f with
  | zero => intro i j h; cases h
  | succ f ih =>
    intro i j h
    unfold zixN at h
    split at h
    · split at h
      · injection h with h; subst h; exact ⟨Nat.le_refl _, by assumption⟩
      · have := ih _ _ h; omega
    · cases h
theorem zix_le {s t : ByteArray} {j : Nat} (h : zix s t = some j) : j + t.size ≤ s.size := (zixN_le s t _ _ _ h).2
set_option maxHeartbeats 2000000 in
set_option maxRecDepth 100000 in
theorem zzIndex_any (s t : ByteArray) (w : World) (hs : s.size ≤ 1152921504606846976) (ht : t.size ≤ 1000000000) :
    Calls Tryz.prog 112 #[.string s, .string t] w fun e w' => e = .returned (.int .i64 (zixV (zix s t))) ∧ w' = w := by
  obtain ⟨o, ho⟩ : ∃ o, zix s t = o := ⟨_, rfl⟩
  rw [ho]
  have HO := Lib.hid ho
  obtain ⟨n, hn⟩ : ∃ n, s.size = n := ⟨_, rfl⟩
  obtain ⟨m, hm⟩ : ∃ n, t.size = n := ⟨_, rfl⟩
  rw [hn] at hs
  rw [hm] at ht
  have HM := Lib.hid hm
  have HN := Lib.hid hn
  clear ho
  go_enter Tryz.func112, Tryz.ntmps112
  go_wp2
  go_loopg [5] (n + 2) (fun g' v5 wr => ∃ i : Nat, v5 = .int .i64 (i : Int) ∧ i ≤ n + 1 ∧ g' = n + 2 - i ∧ Hid (zixN s t (n + 2 - i) i = o) ∧ wr = w)
  case atStart => exact ⟨0, rfl, Nat.zero_le _, rfl, Lib.hid (by rw [← HO.out, ← HN.out]; rfl), rfl⟩
  case round =>
    obtain ⟨i, rfl, hin, rfl, HZ, rfl⟩ := hrel
    by_cases hlt : i + m ≤ n
    · obtain ⟨E, hE⟩ : ∃ E, i + m = E := ⟨_, rfl⟩
      have hi2 : (i : Int) + (m : Int) = (E : Int) := by omega
      have hiz : (E : Int) ≤ (n : Int) := by omega
      have hiE : (i : Int) ≤ (E : Int) := by omega
      have hE0 : (0 : Int) ≤ (E : Int) := by omega
      have hst := HZ.out
      rw [show n + 2 - i = (n + 1 - i) + 1 by omega] at hst
      unfold zixN at hst
      rw [HM.out, HN.out, if_pos hlt, hE] at hst
      have HE := Lib.hid hE
      clear hE
      obtain ⟨b, hb⟩ : ∃ b, ((s.extract i E).toList == t.toList) = b := ⟨_, rfl⟩
      rw [hb] at hst
      have HST := Lib.hid hst
      clear hst
      cases b with
      | true =>
        go_wp2
        go_ret
        have := HST.out
        simp at this
        exact ⟨by rw [← this]; rfl, rfl⟩
      | false =>
        have HZ2 : Hid (zixN s t (n + 2 - (i + 1)) (i + 1) = o) := Lib.hid (by
          have := HST.out
          simp at this
          rw [show n + 2 - (i + 1) = n + 1 - i by omega]
          exact this)
        go_wp2
        go_roundg (n + 2 - (i + 1))
        case measure => omega
        case rel => exact ⟨i + 1, by go_num, by omega, rfl, HZ2, rfl⟩
    · have hiz : ¬ (i : Int) + (m : Int) ≤ (n : Int) := by omega
      have hst := HZ.out
      rw [show n + 2 - i = (n + 1 - i) + 1 by omega] at hst
      unfold zixN at hst
      rw [HM.out, HN.out, if_neg hlt] at hst
      subst hst
      go_wp2
      go_ret
      exact ⟨rfl, rfl⟩
end Go.Proofs.YtackciefmdiphaaGreatDoor

set_option linter.unusedVariables false
namespace Go.Proofs.YtackciefmdiphaaGreatDoor
open Go.RowKit Plain Go.Maps

def dlB : ByteArray := ⟨#[36, 123]⟩
def brB : ByteArray := ⟨#[125]⟩
def memK (key : ByteArray) (keys : List ByteArray) : Bool := keys.any fun k => key.toList == k.toList
/-- a value expanded (by fuel); within: none: an error -/
def expF (D : ByteArray → ByteArray) : Nat → List ByteArray → ByteArray → Option (Option ByteArray)
  | 0, _, _ => none
  | f + 1, keys, s =>
    if s.size ≤ 1152921504606846976 then
      if 64 < keys.length then some none
      else match zix s dlB with
      | none => some (some s)
      | some p => match zix (s.extract (p + 2) s.size) brB with
        | none => some none
        | some q =>
          if memK (s.extract (p + 2) (p + 2 + q)) keys then some none
          else match expF D f (keys ++ [s.extract (p + 2) (p + 2 + q)]) (D (s.extract (p + 2) (p + 2 + q))) with
          | none => none
          | some none => some none
          | some (some v) => expF D f keys (s.extract 0 p ++ v ++ s.extract (p + 2 + q + 1) s.size)
    else none
theorem expF_size (D : ByteArray → ByteArray) : ∀ (f : Nat) (keys : List ByteArray) (s r : ByteArray), expF D f keys s = some (some r) → r.size ≤ 1152921504606846976 := by
  intro f
  induction f with
  | zero => intro keys s r h; cases h
  | succ f ih =>
    intro keys s r h
    unfold expF at h
    by_cases h1 : s.size ≤ 1152921504606846976
    · rw [if_pos h1] at h
      by_cases h2 : 64 < keys.length
      · rw [if_pos h2] at h
        cases h
      · rw [if_neg h2] at h
        cases hp : zix s dlB with
        | none =>
          rw [hp] at h
          injection h with h
          injection h with h
          subst h
          exact h1
        | some p =>
          rw [hp] at h
          dsimp only at h
          cases hq : zix (s.extract (p + 2) s.size) brB with
          | none => rw [hq] at h; cases h
          | some q =>
            rw [hq] at h
            dsimp only at h
            split at h
            · cases h
            · split at h
              · cases h
              · cases h
              · exact ih _ _ _ h
    · rw [if_neg h1] at h
      cases h
theorem wl_app {ops : Array Oper} {rest : List Oper} {o : Oper} {a : Act} {w : World} {Q : Exit → Act → World → Prop} (hgd : o.guard = none) (s x : Operand) (t : TypeId)
    (ho : o.op = .call { callee := .builtin .append, args := #[s, x], argTypes := #[t, t] }) (v src : Value) (hs : a.eval s = v) (hx : a.eval x = src) (F : Value → World → Prop)
    (hrun : ∃ v' w', (Builtin.append_ #[t, t] o.type #[v, src]).run Tryz.prog w = .ok v' w' ∧ F v' w') (h : ∀ v' w', F v' w' → wpList Tryz.prog ops Q rest (a.put o.dst v') w') :
    wpList Tryz.prog ops Q (o :: rest) a w := by
  refine wpList_plain hgd fun K hK => ?_
  obtain ⟨v', w', hr, hF⟩ := hrun
  unfold Oper.wp execOp
  simp only [ho, resolve, invoke, builtin, Sem.run_bind, Sem.run_pure, Result.andThen_ok, List.map_toArray, List.map_cons, List.map_nil, hs, hx, hr]
  exact hK _ _ (h v' w' hF)
/-- one text behind a row of texts, in its place or in a new one: what may go on then, and that the old row stands behind it -/
theorem app_key {y : World} {B g n cap Z : Nat} {xs : List Value} {k : ByteArray} (ty : TypeId) (h : y.ownsRow B 9 1 (.slice (some ⟨g, 0, none⟩) n cap) n xs) (hZ : y.heap[Z]? = some (.cells #[.string k] 9 (0, 0))) (hn : n ≤ 1000) :
    ∃ v' y', (Builtin.append_ #[22, 22] ty #[.slice (some ⟨g, 0, none⟩) n cap, .slice (some ⟨Z, 0, none⟩) 1 1]).run Tryz.prog y = .ok v' y' ∧ ∃ g2 c2, v' = .slice (some ⟨g2, 0, none⟩) (n + 1) c2 ∧ y'.ownsRow B 9 1 (.slice (some ⟨g2, 0, none⟩) (n + 1) c2) (n + 1) (xs ++ [.string k]) ∧ y.grownBy y' (some g) ∧
      ∀ w'', y'.grownBy w'' (some g2) → w''.ownsRow B 9 1 (.slice (some ⟨g2, 0, none⟩) (n + 1) c2) (n + 1) (xs ++ [.string k]) → y.grownBy w'' (some g) ∧ w''.ownsRow B 9 1 (.slice (some ⟨g, 0, none⟩) n cap) n xs := by
  obtain ⟨i0, hi, hz0, hz1, hz2⟩ := info_parts infoStr
  have hxl : xs.length = n := by simpa using h.1
  have hnews : ∀ j u, ([.string k] : List Value)[j]? = some u → y.cell? ((⟨Z, 0, none⟩ : Addr).add j) = some u := by
    intro j u hu
    rw [add_at, Nat.zero_add]
    simp only [World.cell?, hZ]
    simpa using hu
  rcases h.2 with ⟨hv, _⟩ | ⟨g', cap', cur, hv, hbg, hg, hnc, hcm, hcs, htake⟩
  · cases hv
  injection hv with hv1 _ hv3
  injection hv1 with hv1
  injection hv1 with hv1
  subst hv1
  subst hv3
  by_cases hroom : n + 1 ≤ cap
  · have hr := run_append_room (P := Tryz.prog) y 22 ty 9 i0 Tryz.underlying22 hi g n cap cur hg ⟨Z, 0, none⟩ 1 1 [.string k] (by simp [hz1]) hnews (by intro u hu; simp at hu; subst hu; rfl) hroom (by rw [hz1, hcs]; simp; omega)
    rw [hz1] at hr
    have hrow' : (y.setRow g (cur.toList.take (n * 1) ++ [Value.string k] ++ cur.toList.drop (n * 1 + [Value.string k].length)).toArray).ownsRow B 9 1 (.slice (some ⟨g, 0, none⟩) (n + 1) cap) (n + 1) (xs ++ [.string k]) := by
      refine ⟨by simp [hxl], .inr ⟨g, cap, _, rfl, hbg, setRow_heap y g cur _ _ _ hg, hroom, hcm, ?_, ?_⟩⟩
      · have h9 : cur.toList.length = cap * 1 := by rw [Array.length_toList, hcs]
        simp only [List.size_toArray, List.length_append, List.length_take, List.length_drop, h9, List.length_cons, List.length_nil]
        omega
      · rw [htake]
        simp only [List.append_assoc]
        rw [← List.append_assoc, List.take_left' (by simp [hxl])]
    have hgr : y.grownBy (y.setRow g (cur.toList.take (n * 1) ++ [Value.string k] ++ cur.toList.drop (n * 1 + [Value.string k].length)).toArray) (some g) := ⟨rfl, rfl, rfl, by simp, fun j _ hj => setRow_other y g j _ (fun e => hj (by rw [e]))⟩
    refine ⟨_, _, hr, g, cap, rfl, hrow', hgr, fun w'' h1 h2 => ⟨hgr.trans h1, h.1, .inr ?_⟩⟩
    rcases h2.2 with ⟨hv, _⟩ | ⟨g3, cap3, cur3, hv, q1, q2, q3, q4, q5, q6⟩
    · cases hv
    injection hv with hv1 _ hv3
    injection hv1 with hv1
    injection hv1 with hv1
    subst hv1
    subst hv3
    refine ⟨g, cap, cur3, rfl, q1, q2, hnc, q4, q5, ?_⟩
    have h3 := congrArg (List.take n) q6
    rw [List.take_take, Nat.mul_one, Nat.min_eq_left (by omega), List.take_left' hxl] at h3
    rw [Nat.mul_one]
    exact h3
  · have hr := run_append_grow (P := Tryz.prog) y 22 ty 9 i0 (.string ⟨#[]⟩) Tryz.underlying22 hi hz0 ⟨g, 0, none⟩ n cap xs (by rw [hz1]; simp [hxl]) (h.cells rfl) ⟨Z, 0, none⟩ 1 1 [.string k] (by simp [hz1]) hnews (by omega) (by omega) (growslice_fits (by omega) (by rw [hz2]; omega))
    have hge := grownCap_ge y (n + 1) cap 9
    have hcm' : grownCap y (n + 1) cap 9 ≤ maxLen := grownCap_le_maxLen y (n + 1) cap 9 (by unfold maxLen; omega)
    obtain ⟨y', hy'⟩ : ∃ y', (y.drew.alloc (.cells (xs.toArray ++ [Value.string k].toArray ++ Builtin.zeroCells (Value.string ⟨#[]⟩).cells (grownCap y (n + 1) cap 9 - (n + 1))) 9)) = y' := ⟨_, rfl⟩
    have hgr : y.grownBy y' none := hy' ▸ ⟨rfl, rfl, rfl, by simp, fun j hj _ => heap_alloc_old y.drew _ hj⟩
    have hblk : y'.heap[y.heap.size]? = some (.cells (xs.toArray ++ [Value.string k].toArray ++ Builtin.zeroCells (Value.string ⟨#[]⟩).cells (grownCap y (n + 1) cap 9 - (n + 1))) 9 (0, 0)) := hy' ▸ heap_alloc_new y.drew _
    have hlt := (row_lt h rfl).2
    have hBs : B ≤ y.heap.size := by have := (row_lt h rfl).1; omega
    have hrow' : y'.ownsRow B 9 1 (.slice (some ⟨y.heap.size, 0, none⟩) (n + 1) (grownCap y (n + 1) cap 9)) (n + 1) (xs ++ [.string k]) := by
      refine ⟨by simp [hxl], .inr ⟨y.heap.size, _, _, rfl, hBs, hblk, hge, hcm', ?_, ?_⟩⟩
      · have hzz : (Value.string ⟨#[]⟩).cells.size = 1 := rfl
        simp only [Array.size_append, List.size_toArray, size_zeroCells, hzz, hxl, List.length_cons, List.length_nil]
        omega
      · simp only [Array.toList_append, List.append_assoc]
        rw [← List.append_assoc, List.take_left' (by simp [hxl])]
    rw [hy'] at hr
    refine ⟨_, _, hr, y.heap.size, _, rfl, hrow', ⟨hgr.os, hgr.tape, hgr.output, hgr.size, fun j hj _ => hgr.block j hj (by simp)⟩, fun w'' h1 h2 => ⟨⟨h1.os.trans hgr.os, h1.tape.trans hgr.tape, h1.output.trans hgr.output, Nat.le_trans hgr.size h1.size, fun j hj _ => (h1.block j (Nat.lt_of_lt_of_le hj hgr.size) (fun e => by have := Option.some.inj e; omega)).trans (hgr.block j hj (by simp))⟩, row_keep (row_keep h (fun j hj => hgr.block j (row_lt h hj).2 (by simp))) (fun j hj => ?_)⟩⟩
    have hjg : j < y.heap.size := (row_lt h hj).2
    exact h1.block j (Nat.lt_of_lt_of_le hjg hgr.size) (fun e => by have := Option.some.inj e; omega)
def ExPost (o : Option ByteArray) (B g n cap : Nat) (keys : List ByteArray) (w : World) (e : Ending) (w' : World) : Prop :=
  w.grownBy w' (some g) ∧ w'.ownsRow B 9 1 (.slice (some ⟨g, 0, none⟩) n cap) n (keys.map Value.string) ∧ match o with
  | some r => e = .returned (.tuple #[.string r, .nilIface])
  | none => ∃ N : Nat, e = .returned (.tuple #[.string ⟨#[]⟩, .iface 194 (.pointer (some ⟨N, 0, none⟩))])
theorem below_grown {w w' : World} (h : Below w.heap.size w w') (row : Option Nat) : w.grownBy w' row := ⟨h.os, h.tape, h.output, h.size, fun j hj _ => h.block j hj⟩
theorem gro3 {w wr w4 : World} {o : Obj} {g : Nat} (h1 : w.grownBy wr (some g)) (h2 : (wr.alloc o).grownBy w4 (some g)) : w.grownBy w4 (some g) := by
  have hz := h2.size
  have h3 : (wr.alloc o).heap.size = wr.heap.size + 1 := by simp
  have hz1 := h1.size
  exact ⟨h2.os.trans h1.os, h2.tape.trans h1.tape, h2.output.trans h1.output, by omega, fun j hj hne => ((h2.block j (by omega) hne).trans (Below.heap_alloc wr o j (Nat.lt_of_lt_of_le hj h1.size))).trans (h1.block j hj hne)⟩
theorem gro_drew {w w4 : World} {g k : Nat} (h : w.grownBy w4 (some g)) : w.grownBy (w4.drewN k) (some g) := ⟨h.os, h.tape, h.output, h.size, h.block⟩
set_option maxHeartbeats 16000000 in
set_option maxRecDepth 100000 in
theorem expand_any (D : DataW Unit) (mb nD B : Nat) : ∀ (f : Nat) (keys : List ByteArray) (s : ByteArray) (o : Option ByteArray) (g n cap : Nat) (w : World), expF (rawOf D) f keys s = some o → keys.length = n → n ≤ 100 → MpS w mb nD D → w.ownsRow B 9 1 (.slice (some ⟨g, 0, none⟩) n cap) n (keys.map Value.string) → B ≤ w.heap.size →
    Calls Tryz.prog 96 #[.string s, .slice (some ⟨g, 0, none⟩) n cap, .string ⟨#[36, 123]⟩, .string ⟨#[125]⟩, .map (some mb)] w (ExPost o B g n cap keys w) := by
  intro f
  induction f using Nat.strongRecOn with
  | _ f ih =>
    intro keys s o g n cap w hex hkn hn hmp hrow hBw
    have HIH := Lib.hid ih
    have HMP := Lib.hid hmp
    have HROW := Lib.hid hrow
    have HKN := Lib.hid hkn
    have HEX := Lib.hid hex
    have HNE : Hid (∀ q y, Calls Tryz.prog 111 #[.string q] y (NewErr q y)) := Lib.hid newErr_any
    have hmg : mb ≠ g := fun e => by
      obtain ⟨es, c, h1⟩ := mp_is hmp
      obtain ⟨cs, h2⟩ := row_cells hrow rfl
      rw [e, h2] at h1
      injection h1 with h1
      exact Obj.noConfusion h1
    clear ih hmp hrow hkn hex
    by_cases h64 : 64 < n
    · have hz64 : (64 : Int) < (n : Int) := by omega
      have ho : o = none := by
        have h := HEX.out
        cases f with
        | zero => cases h
        | succ f =>
          unfold expF at h
          rw [HKN.out] at h
          by_cases h9 : s.size ≤ 1152921504606846976
          · rw [if_pos h9, if_pos h64] at h
            injection h with h
            exact h.symm
          · rw [if_neg h9] at h
            cases h
      subst ho
      go_enter Tryz.func96, Tryz.ntmps96
      go_wp2_with (go_at_call 111; (with_reducible refine (HNE.out _ _).mono ?_); rintro e w1 ⟨N, rfl, _, hb⟩; have HB := Lib.hid hb; clear hb; dsimp only)
      go_ret2
      exact ⟨below_grown HB.out _, row_keep HROW.out (fun j hj => HB.out.block j (row_lt HROW.out hj).2), N, rfl⟩
    have hz64 : ¬ (64 : Int) < (n : Int) := by omega
    go_enter Tryz.func96, Tryz.ntmps96
    go_wp2
    go_loopg [0] f (fun g' v0 wr => ∃ (s' : ByteArray) (f' : Nat), v0 = .string s' ∧ f' ≤ f ∧ g' = f' ∧ Hid (expF (rawOf D) f' keys s' = some o) ∧ Hid (w.grownBy wr (some g)) ∧ Hid (wr.ownsRow B 9 1 (.slice (some ⟨g, 0, none⟩) n cap) n (keys.map Value.string)))
    case atStart => exact ⟨s, f, rfl, Nat.le_refl _, rfl, HEX, Lib.hid ⟨rfl, rfl, rfl, Nat.le_refl _, fun _ _ _ => rfl⟩, HROW⟩
    case round =>
      obtain ⟨s', f', rfl, hff, hgf, HE, HG, HR⟩ := hrel
      cases f' with
      | zero => exact absurd HE.out (by simp [expF])
      | succ f1 =>
        subst hgf
        have h := HE.out
        unfold expF at h
        have hs60 : s'.size ≤ 1152921504606846976 := by
          by_cases h9 : s'.size ≤ 1152921504606846976
          · exact h9
          · rw [if_neg h9] at h
            cases h
        rw [if_pos hs60, HKN.out, if_neg h64] at h
        obtain ⟨m, hm⟩ : ∃ m, s'.size = m := ⟨_, rfl⟩
        rw [hm] at hs60
        have HM := Lib.hid hm
        have HZ := Lib.hid (zzIndex_any s' ⟨#[36, 123]⟩ wr (by rw [hm]; exact hs60) (by decide))
        cases hp : zix s' dlB with
        | none =>
          rw [hp] at h
          have ho : o = some s' := (Option.some.inj h).symm
          subst ho
          have hp' : zix s' ⟨#[36, 123]⟩ = none := hp
          rw [hp'] at HZ
          change Hid (Calls _ _ _ _ fun e w' => e = .returned (.int .i64 (-1)) ∧ _) at HZ
          clear h hp hp' hm
          go_wp2_with (go_at_call 112; (with_reducible refine HZ.out.mono ?_); rintro e w1 ⟨rfl, rfl⟩; dsimp only)
          go_ret2
          exact ⟨HG.out, HR.out, rfl⟩
        | some p =>
          rw [hp] at h
          dsimp only at h
          have hple : p + 2 ≤ m := by have := zix_le hp; rw [hm] at this; exact this
          have hp' : zix s' ⟨#[36, 123]⟩ = some p := hp
          rw [hp'] at HZ
          change Hid (Calls _ _ _ _ fun e w' => e = .returned (.int .i64 (p : Int)) ∧ _) at HZ
          obtain ⟨K2, hK2⟩ : ∃ K, p + 2 = K := ⟨_, rfl⟩
          rw [hK2, hm] at h
          have hKz : (p : Int) + 2 = (K2 : Int) := by omega
          have hKm : (K2 : Int) ≤ (m : Int) := by omega
          have hp1 : ((p : Int) == (-1 : Int)) = false := by rw [beq_eq_false_iff_ne]; omega
          obtain ⟨S2, hS2⟩ : ∃ S, s'.extract K2 m = S := ⟨_, rfl⟩
          have hS2s : S2.size = m - K2 := by rw [← hS2, ByteArray.size_extract, hm, Nat.min_self]
          rw [hS2] at h
          have HZ2 := Lib.hid (zzIndex_any S2 ⟨#[125]⟩ wr (by omega) (by decide))
          cases hq : zix S2 brB with
          | none =>
            rw [hq] at h
            have ho : o = none := (Option.some.inj h).symm
            subst ho
            have hq' : zix S2 ⟨#[125]⟩ = none := hq
            rw [hq'] at HZ2
            change Hid (Calls _ _ _ _ fun e w' => e = .returned (.int .i64 (-1)) ∧ _) at HZ2
            clear h hp hp' hq hq' hK2 hS2s
            go_wp2_with (first
              | (go_at_call 112; first | ((with_reducible refine HZ.out.mono ?_); rintro e w1 ⟨rfl, rfl⟩; dsimp only) | ((with_reducible refine HZ2.out.mono ?_); rintro e w1 ⟨rfl, rfl⟩; dsimp only))
              | (go_at_call 111; (with_reducible refine (HNE.out _ _).mono ?_); rintro e w1 ⟨N, rfl, _, hb⟩; have HB := Lib.hid hb; clear hb; dsimp only))
            go_ret2
            exact ⟨⟨HB.out.os.trans HG.out.os, HB.out.tape.trans HG.out.tape, HB.out.output.trans HG.out.output, Nat.le_trans HG.out.size HB.out.size, fun j hj hne => (HB.out.block j (Nat.lt_of_lt_of_le hj HG.out.size)).trans (HG.out.block j hj hne)⟩, row_keep HR.out (fun j hj => HB.out.block j (row_lt HR.out hj).2), N, rfl⟩
          | some q =>
            rw [hq] at h
            dsimp only at h
            have hqle : q + 1 ≤ m - K2 := by have := zix_le hq; rw [hS2s] at this; exact this
            have hq' : zix S2 ⟨#[125]⟩ = some q := hq
            rw [hq'] at HZ2
            change Hid (Calls _ _ _ _ fun e w' => e = .returned (.int .i64 (q : Int)) ∧ _) at HZ2
            obtain ⟨E, hE⟩ : ∃ E, K2 + q = E := ⟨_, rfl⟩
            obtain ⟨F, hF⟩ : ∃ F, E + 1 = F := ⟨_, rfl⟩
            rw [hE, hF] at h
            have hEz : (K2 : Int) + (q : Int) = (E : Int) := by omega
            have hFz : (E : Int) + 1 = (F : Int) := by omega
            have hFm : (F : Int) ≤ (m : Int) := by omega
            have hEm : (E : Int) ≤ (m : Int) := by omega
            have hKE : (K2 : Int) ≤ (E : Int) := by omega
            have hF1 : (F : Int) - 1 = (E : Int) := by omega
            have hq1 : ((q : Int) == (-1 : Int)) = false := by rw [beq_eq_false_iff_ne]; omega
            obtain ⟨key, hkey⟩ : ∃ S, s'.extract K2 E = S := ⟨_, rfl⟩
            have hkm : key.size ≤ 1152921504606846976 := by rw [← hkey, ByteArray.size_extract, hm]; omega
            rw [hkey] at h
            have H := Lib.hid h
            have HF9 := Lib.hid (show p ≤ m ∧ F ≤ m by omega)
            obtain ⟨W, hWW⟩ : ∃ W, wr = W := ⟨_, rfl⟩
            rw [hWW] at HZ HZ2 HG HR ⊢
            clear h hp hp' hq hq' hK2 hS2s hE hF hple hqle hWW
            go_wp2_with (go_at_call 112; first | ((with_reducible refine HZ.out.mono ?_); rintro e w1 ⟨rfl, rfl⟩; dsimp only) | ((with_reducible refine HZ2.out.mono ?_); rintro e w1 ⟨rfl, rfl⟩; dsimp only))
            have hn1 : n ≤ 64 := by omega
            go_loopg [59] n (fun g' v59 wr => ∃ j : Nat, v59 = .int .i64 (j : Int) ∧ j ≤ n ∧ g' = n - j ∧ Hid (memK key (keys.take j) = false) ∧ wr = w1)
            case atStart => exact ⟨0, rfl, Nat.zero_le _, rfl, Lib.hid rfl, rfl⟩
            case round =>
              obtain ⟨j, rfl, hjn, rfl, HMK, rfl⟩ := hrel
              by_cases hlt : j < n
              · have hjz : (j : Int) < (n : Int) := by omega
                obtain ⟨x, hx⟩ : ∃ x, keys[j]? = some x := ⟨_, List.getElem?_eq_getElem (by have := HKN.out; omega)⟩
                have x0 : wr.cell? ⟨g, j, none⟩ = some (.string x) := by
                  rw [HR.out.cellAt j (by omega)]
                  simp [hx]
                obtain ⟨b, hb⟩ : ∃ b, (key.toList == x.toList) = b := ⟨_, rfl⟩
                have hmem : memK key (keys.take (j + 1)) = (memK key (keys.take j) || b) := by
                  unfold memK
                  rw [List.take_add_one, hx, List.any_append]
                  simp [hb]
                have HMM := Lib.hid hmem
                have HX := Lib.hid (List.mem_of_getElem? hx)
                have HBB := Lib.hid hb
                clear hx hmem
                cases b with
                | true =>
                  have ho : o = none := by
                    have h9 := H.out
                    have hm9 : memK key keys = true := List.any_eq_true.2 ⟨x, HX.out, HBB.out⟩
                    rw [if_pos hm9] at h9
                    exact (Option.some.inj h9).symm
                  subst ho
                  go_wp2_with (go_at_call 111; (with_reducible refine (HNE.out _ _).mono ?_); rintro e w3 ⟨N, rfl, _, hb⟩; have HB := Lib.hid hb; clear hb; dsimp only)
                  go_ret2
                  exact ⟨⟨HB.out.os.trans HG.out.os, HB.out.tape.trans HG.out.tape, HB.out.output.trans HG.out.output, Nat.le_trans HG.out.size HB.out.size, fun j hj hne => (HB.out.block j (Nat.lt_of_lt_of_le hj HG.out.size)).trans (HG.out.block j hj hne)⟩, row_keep HR.out (fun j hj => HB.out.block j (row_lt HR.out hj).2), N, rfl⟩
                | false =>
                  have HMK2 : Hid (memK key (keys.take (j + 1)) = false) := Lib.hid (by rw [HMM.out, HMK.out]; rfl)
                  go_wp2
                  go_roundg (n - (j + 1))
                  case measure => omega
                  case rel => exact ⟨j + 1, by go_num, by omega, rfl, HMK2, rfl⟩
              · have hjz : ¬ (j : Int) < (n : Int) := by omega
                obtain rfl : j = n := by omega
                have h9 := H.out
                have hmf : memK key keys = false := by
                  have := HMK.out
                  rwa [List.take_of_length_le (Nat.le_of_eq HKN.out)] at this
                rw [if_neg (by rw [hmf]; simp)] at h9
                obtain ⟨RK, hRK⟩ : ∃ R, rawOf D key = R := ⟨_, rfl⟩
                rw [hRK] at h9
                have HRK := Lib.hid hRK
                have HMPW : Hid (MpS wr mb nD D) := Lib.hid (mp_keep HMP.out (HG.out.block mb (map_lt (mp_is HMP.out)) (fun e => hmg (Option.some.inj e))))
                have hkm2 : key.size ≤ maxLen := by unfold maxLen; omega
                have hgl : g < wr.heap.size := (row_lt HR.out rfl).2
                have HAP := Lib.hid (app_key (y := wr.alloc (.cells #[.string key] 9)) (Z := wr.heap.size) 22 (k := key) (HR.out.alloc _) (heap_alloc_new wr _) (by omega))
                have hmgW : mb < wr.heap.size := map_lt (mp_is HMPW.out)
                cases hrec : expF (rawOf D) f1 (keys ++ [key]) RK with
                | none => rw [hrec] at h9; cases h9
                | some o2 =>
                  rw [hrec] at h9
                  have HREC := Lib.hid hrec
                  have HCALL : Hid (∀ y' g2 c2, (wr.alloc (.cells #[.string key] 9)).grownBy y' (some g) → y'.ownsRow B 9 1 (.slice (some ⟨g2, 0, none⟩) (j + 1) c2) (j + 1) (keys.map Value.string ++ [.string key]) → Calls Tryz.prog 96 #[.string RK, .slice (some ⟨g2, 0, none⟩) (j + 1) c2, .string ⟨#[36, 123]⟩, .string ⟨#[125]⟩, .map (some mb)] y' (ExPost o2 B g2 (j + 1) c2 (keys ++ [key]) y')) := Lib.hid (fun y' g2 c2 hg hr => by
                    have hmy : MpS y' mb nD D := mp_keep HMPW.out ((hg.block mb (by simp; omega) (fun e => hmg (Option.some.inj e))).trans (Below.heap_alloc wr _ _ hmgW))
                    refine HIH.out f1 (by omega) (keys ++ [key]) RK o2 g2 (j + 1) c2 y' HREC.out (by rw [List.length_append, HKN.out]; rfl) (by omega) hmy (by rw [List.map_append]; exact hr) ?_
                    have h1 := hg.size
                    have h2 : (wr.alloc (.cells #[.string key] 9)).heap.size = wr.heap.size + 1 := by simp
                    have h3 := HG.out.size
                    omega)
                  clear hrec hRK H hmf
                  cases o2 with
                  | none =>
                    have ho : o = none := (Option.some.inj h9).symm
                    subst ho
                    go_wp2_with (first
                      | (at_lookup; refine look_ss _ rfl _ _ rfl mb nD D rfl HMPW.out key rfl hkm2 ?_; intro c hc; have hc' := rawOf_of hc; rw [HRK.out] at hc'; subst hc'; clear hc)
                      | (at_builtin; refine wl_app rfl _ _ 22 rfl (.slice (some ⟨g, 0, none⟩) j cap) (.slice (some ⟨wr.heap.size, 0, none⟩) 1 1) rfl rfl _ HAP.out ?_; rintro v' y' ⟨g2, c2, rfl, hr2, hg2, hcl⟩; have HC := Lib.hid (HCALL.out y' g2 c2 hg2 hr2); have HCL := Lib.hid hcl; clear hr2 hg2 hcl)
                      | (go_at_call 96; (with_reducible refine HC.out.mono ?_); rintro e w4 ⟨hg4, hr4, N, rfl⟩; have HF := Lib.hid (HCL.out w4 hg4 (by rw [List.map_append] at hr4; exact hr4)); clear hg4 hr4; dsimp only))
                    go_ret2
                    exact ⟨gro3 HG.out HF.out.1, HF.out.2, N, rfl⟩
                  | some v =>
                    have hpm : (p : Int) ≤ (m : Int) := by have := HF9.out.1; omega
                    have hwF : IntKind.i64.wrap ((E : Int) + 1) = (F : Int) := by rw [hFz]; exact IntWalk.i64_in _ (by omega)
                    have hvs := expF_size _ _ _ _ _ HREC.out
                    obtain ⟨A1, hA1⟩ : ∃ A, s'.extract 0 p = A := ⟨_, rfl⟩
                    obtain ⟨A2, hA2⟩ : ∃ A, s'.extract F m = A := ⟨_, rfl⟩
                    have hs1 : A1.size ≤ 1152921504606846976 := by rw [← hA1, ByteArray.size_extract, hm]; omega
                    have hs2 : A2.size ≤ 1152921504606846976 := by rw [← hA2, ByteArray.size_extract, hm]; omega
                    have hc1 : (9223372036854775807 < A1.size + v.size) = False := eq_false (by omega)
                    have hc2 : (9223372036854775807 < (A1 ++ v).size + A2.size) = False := eq_false (by rw [ByteArray.size_append]; omega)
                    have hc3 : (9223372036854775807 < A1.size + v.size + A2.size) = False := eq_false (by omega)
                    rw [hA1, hA2] at h9
                    have HN9 := Lib.hid h9
                    clear h9 hvs hs1 hs2
                    go_wp2_with (first
                      | (at_lookup; refine look_ss _ rfl _ _ rfl mb nD D rfl HMPW.out key rfl hkm2 ?_; intro c hc; have hc' := rawOf_of hc; rw [HRK.out] at hc'; subst hc'; clear hc)
                      | (at_builtin; refine wl_app rfl _ _ 22 rfl (.slice (some ⟨g, 0, none⟩) j cap) (.slice (some ⟨wr.heap.size, 0, none⟩) 1 1) rfl rfl _ HAP.out ?_; rintro v' y' ⟨g2, c2, rfl, hr2, hg2, hcl⟩; have HC := Lib.hid (HCALL.out y' g2 c2 hg2 hr2); have HCL := Lib.hid hcl; clear hr2 hg2 hcl)
                      | (go_at_call 96; (with_reducible refine HC.out.mono ?_); rintro e w4 ⟨hg4, hr4, rfl⟩; have HF := Lib.hid (HCL.out w4 hg4 (by rw [List.map_append] at hr4; exact hr4)); clear hg4 hr4; dsimp only))
                    go_quiet (fail)
                    have HE2 : Hid (expF (rawOf D) f1 keys (A1 ++ v ++ A2) = some o) := HN9
                    have HG2 : Hid (w.grownBy (w4.drewN nq) (some g)) := Lib.hid (gro_drew (gro3 HG.out HF.out.1))
                    have HR2 : Hid ((w4.drewN nq).ownsRow B 9 1 (.slice (some ⟨g, 0, none⟩) j cap) j (keys.map Value.string)) := Lib.hid (row_keep HF.out.2 (fun _ _ => rfl))
                    go_wp2
                    go_roundg f1
                    case measure => omega
                    case rel => exact ⟨_, f1, rfl, by omega, rfl, HE2, HG2, HR2⟩
end Go.Proofs.YtackciefmdiphaaGreatDoor

set_option linter.unusedVariables false
namespace Go.Proofs.YtackciefmdiphaaGreatDoor
open Go.RowKit Plain Go.Maps

def ExRes (o : Option ByteArray) (e : Ending) : Prop :=
  match o with
  | some r => e = .returned (.tuple #[.string r, .nilIface])
  | none => ∃ N : Nat, e = .returned (.tuple #[.string ⟨#[]⟩, .iface 194 (.pointer (some ⟨N, 0, none⟩))])
def PePost (o : Option ByteArray) (w : World) (e : Ending) (w' : World) : Prop :=
  Below w.heap.size w w' ∧ ExRes o e
theorem one_keyrow {w : World} {g : Nat} {k : ByteArray} (h : w.heap[g]? = some (.cells #[.string k] 9 (0, 0))) : w.ownsRow g 9 1 (.slice (some ⟨g, 0, none⟩) 1 1) 1 ([k].map Value.string) :=
  ⟨rfl, .inr ⟨g, 1, _, rfl, Nat.le_refl _, h, Nat.le_refl _, by unfold maxLen; omega, rfl, rfl⟩⟩
attribute [local go_sem ↓] Go.wp_at_zero Go.wp_at_succ
set_option maxHeartbeats 4000000 in
set_option maxRecDepth 100000 in
theorem pexp_any (D : DataW Unit) (pb mb nD f : Nat) (key input : ByteArray) (o : Option ByteArray) (w : World) (c0 : w.cell? ⟨pb, 0, none⟩ = some (.string ⟨#[36, 123]⟩)) (c1 : w.cell? ⟨pb, 1, none⟩ = some (.string ⟨#[125]⟩)) (c3 : w.cell? ⟨pb, 3, none⟩ = some (.map (some mb))) (hm : MpS w mb nD D) (hex : expF (rawOf D) f [key] input = some o) :
    Calls Tryz.prog 80 #[.pointer (some ⟨pb, 0, none⟩), .string key, .string input] w (PePost o w) := by
  have hpl : pb < w.heap.size := Lib.lt_of_cell c0
  have hml := map_lt (mp_is hm)
  have HM := Lib.hid hm
  have HC : Hid (∀ y, Below w.heap.size w y → y.heap[w.heap.size]? = some (.cells #[.string key] 9 (0, 0)) → Calls Tryz.prog 96 #[.string input, .slice (some ⟨w.heap.size, 0, none⟩) 1 1, .string ⟨#[36, 123]⟩, .string ⟨#[125]⟩, .map (some mb)] y fun e w' => Below w.heap.size y w' ∧ ExRes o e) := Lib.hid (fun y hy hb => (expand_any D mb nD w.heap.size f [key] input o w.heap.size 1 1 y hex rfl (by omega) (mp_keep HM.out (hy.block mb hml)) (one_keyrow hb) hy.size).mono (by
      rintro e w' ⟨h1, h2, h3⟩
      exact ⟨⟨h1.os, h1.tape, h1.output, h1.size, fun j hj => h1.block j (Nat.lt_of_lt_of_le hj hy.size) (fun e => by have := Option.some.inj e; omega)⟩, h3⟩))
  have HNB : Hid (∀ o : Obj, Below w.heap.size w (w.alloc o).drew) := Lib.hid (fun o => Below.drew ((Below.refl _ _).alloc (Nat.le_refl _) o))
  have HNW : Hid (((w.alloc (.cells #[.string key] 9)).drew).heap[w.heap.size]? = some (.cells #[.string key] 9 (0, 0))) := Lib.hid (heap_alloc_new w _)
  clear hm hex
  unfold PePost
  cases o with
  | some r =>
    go_enter Tryz.func80, Tryz.ntmps80
    go_wp2_with fail
    go_region_held3 (fun y => y.cell? ⟨pb, 0, none⟩ = some (.string ⟨#[36, 123]⟩) ∧ y.cell? ⟨pb, 1, none⟩ = some (.string ⟨#[125]⟩) ∧ y.cell? ⟨pb, 3, none⟩ = some (.map (some mb)))
      (first | exact ⟨(HB4.out.cell hpl).trans c0, (HB4.out.cell hpl).trans c1, (HB4.out.cell hpl).trans c3⟩ | go_keep)
      ((go_at_call 96; (with_reducible refine (HC.out _ (HNB.out _) HNW.out).mono ?_); rintro e w4 ⟨hb4, rfl⟩; have HB4 := Lib.hid ((HNB.out _).trans hb4); clear hb4; dsimp only))
    all_goals (
      go_wp2
      go_ret2
      exact ⟨HB4.out, rfl⟩)
  | none =>
    go_enter Tryz.func80, Tryz.ntmps80
    go_wp2_with fail
    go_region_held3 (fun y => y.cell? ⟨pb, 0, none⟩ = some (.string ⟨#[36, 123]⟩) ∧ y.cell? ⟨pb, 1, none⟩ = some (.string ⟨#[125]⟩) ∧ y.cell? ⟨pb, 3, none⟩ = some (.map (some mb)))
      (first | exact ⟨(HB4.out.cell hpl).trans c0, (HB4.out.cell hpl).trans c1, (HB4.out.cell hpl).trans c3⟩ | go_keep)
      ((go_at_call 96; (with_reducible refine (HC.out _ (HNB.out _) HNW.out).mono ?_); rintro e w4 ⟨hb4, N, rfl⟩; have HB4 := Lib.hid ((HNB.out _).trans hb4); clear hb4; dsimp only))
    all_goals (
      go_wp2
      go_ret2
      exact ⟨HB4.out, N, rfl⟩)
/-- what each key's value comes to -/
def ExpAll (D : DataW Unit) (ek : ByteArray → Option ByteArray) : Prop := ∀ k, Maps.has D (keyL8 k) = true → ∃ f, expF (rawOf D) f [k] (rawOf D k) = some (ek k)
theorem has_of_at {D : DataW Unit} {k : ByteArray} {d : DataW Unit} (h : ∀ zd, D.atKey (keyL8 k) zd = d) : Maps.has D (keyL8 k) = true := has_true_of_atKey h
def CkPost (D : DataW Unit) (ek : ByteArray → Option ByteArray) (w : World) (e : Ending) (w' : World) : Prop :=
  Below w.heap.size w w' ∧ ((e = .returned .nilIface ∧ ∀ k, Maps.has D (keyL8 k) = true → (ek k).isSome = true) ∨ (∃ N k, e = .returned (.iface 194 (.pointer (some ⟨N, 0, none⟩))) ∧ Maps.has D (keyL8 k) = true ∧ ek k = none))
set_option maxHeartbeats 4000000 in
set_option maxRecDepth 100000 in
theorem check_any (D : DataW Unit) (ek : ByteArray → Option ByteArray) (pb mb nD : Nat) (w : World) (c0 : w.cell? ⟨pb, 0, none⟩ = some (.string ⟨#[36, 123]⟩)) (c1 : w.cell? ⟨pb, 1, none⟩ = some (.string ⟨#[125]⟩)) (c3 : w.cell? ⟨pb, 3, none⟩ = some (.map (some mb))) (hm : MpS w mb nD D) (hek : ExpAll D ek) :
    Calls Tryz.prog 79 #[.pointer (some ⟨pb, 0, none⟩)] w (CkPost D ek w) := by
  have hpl : pb < w.heap.size := Lib.lt_of_cell c0
  have hml := map_lt (mp_is hm)
  have HM := Lib.hid hm
  have HEK := Lib.hid hek
  have HC0 := Lib.hid c0
  have HC1 := Lib.hid c1
  have HC3 := Lib.hid c3
  have HPX : Hid (∀ y k, Below w.heap.size w y → Maps.has D (keyL8 k) = true → Calls Tryz.prog 80 #[.pointer (some ⟨pb, 0, none⟩), .string k, .string (rawOf D k)] y (PePost (ek k) y)) := Lib.hid (fun y k hy hk => by
    obtain ⟨f, hf⟩ := HEK.out k hk
    exact pexp_any D pb mb nD f k (rawOf D k) (ek k) y ((hy.cell hpl).trans HC0.out) ((hy.cell hpl).trans HC1.out) ((hy.cell hpl).trans HC3.out) (mp_keep HM.out (hy.block mb hml)) hf)
  clear hm hek c0 c1
  unfold CkPost
  go_enter Tryz.func79, Tryz.ntmps79
  go_wp2_with (first
    | (at_range; refine wpList_range_own _ rfl _ 83 rfl 9 9 lawS Tryz.underlying83 _ mb nD _ rfl HM.out ?_; intro w0 hrg0 hg0 hs0))
  (try go_frame)
  have HRG0 := Lib.hid hrg0
  have HB0 : Hid (Below w.heap.size w w0) := Lib.hid ⟨hg0.os, hg0.tape, hg0.output, hg0.size, fun j hj => hg0.block j hj (by simp)⟩
  clear hrg0 hg0 c3
  go_loopw [3] (fun _ wr => ∃ (left : Lit → Bool) (cnt : Nat), Hid (wr.ranges Tryz.prog 9 (plainElem Tryz.prog 9) mb w.heap.size nD D left cnt) ∧ Hid (∀ k, Maps.has D (keyL8 k) = true → left (keyL8 k) = false → (ek k).isSome = true) ∧ Hid (Below w.heap.size w wr))
    (fun _ wr => wr.rangeLeft mb w.heap.size)
  case atStart =>
    exact ⟨_, _, HRG0, Lib.hid (fun k h1 h2 => by rw [h1] at h2; cases h2), HB0⟩
  case round =>
    obtain ⟨left, cnt, HRG, HV, HBr⟩ := hrel
    go_wp2_with (first
      | (at_next; refine next_ss _ rfl _ rfl mb w.heap.size nD _ _ _ rfl HRG.out ?_ ?_))
    · intro hc0 hl0
      have HLZ := Lib.hid hl0
      clear hl0
      go_wp2
      go_ret
      exact ⟨HBr.out, .inl ⟨rfl, fun k hk => HV.out k hk (HLZ.out _)⟩⟩
    · intro x c w1 cnt1 hwx hwc hlx hat hrg1 hlt hg1 hs1 hen
      have hhas := has_of_at hat
      have hraw : rawOf D x = c := rawOf_of (hat _)
      subst hraw
      have hb1 : Below w.heap.size w w1 := HBr.out.grown hg1 HBr.out.size (fun j hj => by injection hj with hj; omega)
      have HB1 := Lib.hid hb1
      have HRG1 := Lib.hid hrg1
      have HCL := Lib.hid (HPX.out w1 x hb1 hhas)
      have HH := Lib.hid hhas
      obtain ⟨RX, hRX⟩ : ∃ R, rawOf D x = R := ⟨_, rfl⟩
      rw [hRX] at HCL hen
      clear hat hrg1 hg1 hhas hb1 hwc
      rw [hRX]
      cases hx : ek x with
      | none =>
        rw [hx] at HCL
        have HX := Lib.hid hx
        clear hx
        go_wp2_with (go_at_call 80; (with_reducible refine HCL.out.mono ?_); rintro e w2 ⟨hb2, N, rfl⟩; have HB2 := Lib.hid (HB1.out.trans (hb2.mono HB1.out.size)); clear hb2; dsimp only)
        go_ret
        exact ⟨HB2.out, .inr ⟨N, x, rfl, HH.out, HX.out⟩⟩
      | some r =>
        rw [hx] at HCL
        have HX := Lib.hid hx
        clear hx
        go_wp2_with (go_at_call 80; (with_reducible refine HCL.out.mono ?_); rintro e w2 ⟨hb2, rfl⟩; have HB12 := Lib.hid hb2; have HB2 := Lib.hid (HB1.out.trans (hb2.mono HB1.out.size)); clear hb2; dsimp only)
        have hrg2 := HRG1.out.kept (row := none) (w' := w2) ⟨HB12.out.os, HB12.out.tape, HB12.out.output, HB12.out.size, fun j hj _ => HB12.out.block j hj⟩ (by simp) (by simp)
        have HRG2 := Lib.hid hrg2
        have HV2 : Hid (∀ k, Maps.has D (keyL8 k) = true → (left (keyL8 k) && !(keyL8 k).sameKey (keyL8 x)) = false → (ek k).isSome = true) := Lib.hid (fun k h1 h2 => by
          by_cases hkx : k = x
          · subst hkx; rw [HX.out]; rfl
          · refine HV.out k h1 ?_
            rw [Maps.sameKey_ne (fun e => hkx (keyL8_inj e))] at h2
            simpa using h2)
        clear hrg2 hen
        go_roundw
        case rel => exact ⟨_, cnt1, HRG2, HV2, HB2⟩
        case measure => rw [HRG2.out.left_eq, HRG.out.left_eq]; exact hlt
end Go.Proofs.YtackciefmdiphaaGreatDoor

set_option linter.unusedVariables false
namespace Go.Proofs.YtackciefmdiphaaGreatDoor
open Go.RowKit Plain Go.Maps

theorem lp_cells {B pb mb mc n nc : Nat} {p : PSt} {DC : DataW Value} {lv : Value} {dis : Bool} {w : World} (h : LP B pb mb mc n nc p DC lv dis w) :
    w.cell? ⟨pb, 0, none⟩ = some (.string ⟨#[36, 123]⟩) ∧ w.cell? ⟨pb, 1, none⟩ = some (.string ⟨#[125]⟩) ∧ w.cell? ⟨pb, 2, none⟩ = some (.bool dis) ∧ w.cell? ⟨pb, 3, none⟩ = some (.map (some mb)) := by
  have hb := h.blk
  simp [World.cell?, hb]
set_option maxRecDepth 100000 in
/-- a look-up in properties that are expanded -/
theorem getE_any (B pb mb mc n nc f : Nat) (p : PSt) (DC : DataW Value) (lv : Value) (k r : ByteArray) (w : World) (h : LP B pb mb mc n nc p DC lv false w) (hk : k.size ≤ 2147483647) (hhas : Maps.has p.D (keyL8 k) = true) (hex : expF (rawOf p.D) f [k] (rawOf p.D k) = some (some r)) :
    Calls Tryz.prog 54 #[.pointer (some ⟨pb, 0, none⟩), .string k] w fun e w' => e = .returned (.tuple #[.string r, .bool true]) ∧ Below w.heap.size w w' := by
  obtain ⟨c0, c1, c2, c3⟩ := lp_cells h
  have HM := Lib.hid h.mp
  have hkm : k.size ≤ maxLen := by unfold maxLen; omega
  have HPX := Lib.hid (pexp_any p.D pb mb n f k (rawOf p.D k) (some r) w c0 c1 c3 h.mp hex)
  obtain ⟨R, hR⟩ : ∃ R, rawOf p.D k = R := ⟨_, rfl⟩
  rw [hR] at HPX
  have HRR := Lib.hid hR
  have HH : Hid (Maps.has p.D (.string k.data.toList) = true) := Lib.hid hhas
  clear h hex hR hhas
  go_enter Tryz.func54, Tryz.ntmps54
  go_wp2_with (at_lookup; refine wpList_lookup_own_ok _ rfl _ _ 83 rfl 9 9 lawS Tryz.underlying83 (plainElem Tryz.prog 9) (zeroS _) (.lit (.string [])) [] (plainElem_string Tryz.underlying9 (by unfold maxLen; decide)) mb n p.D rfl HM.out _ _ rfl (WideMaps.keyOf_string_mk Tryz.underlying9 hkm) ?_)
  intro v ps hv
  obtain ⟨s, rfl, hz, hs⟩ := plainElem_string_inv Tryz.underlying9 hv
  have hrs : R = s := HRR.out.symm.trans (rawOf_of (congrArg Prod.fst hz))
  subst hrs
  rw [HH.out]
  clear hv hz hs
  go_wp2_with (go_at_call 80; (with_reducible refine HPX.out.mono ?_); rintro e w2 ⟨hb2, rfl⟩; have HB2 := Lib.hid hb2; clear hb2; dsimp only)
  go_ret2
  exact ⟨rfl, HB2.out⟩
/-- what loading with expansion gives -/
def LdPostE (o : Option PSt) (ek : ByteArray → Option ByteArray) (w : World) (e : Ending) (w' : World) : Prop :=
  Below w.heap.size w w' ∧ match o with
  | some p => (∃ pb mb mc n nc DC lv, e = .returned (.tuple #[.pointer (some ⟨pb, 0, none⟩), .nilIface]) ∧ LP w.heap.size pb mb mc n nc p DC lv false w' ∧ ∀ k, Maps.has p.D (keyL8 k) = true → (ek k).isSome = true) ∨ (∃ q N k, e = .returned (.tuple #[.pointer q, .iface 194 (.pointer (some ⟨N, 0, none⟩))]) ∧ Maps.has p.D (keyL8 k) = true ∧ ek k = none)
  | none => ∃ N : Nat, e = .returned (.tuple #[.pointer none, .iface 194 (.pointer (some ⟨N, 0, none⟩))])
set_option maxHeartbeats 2000000 in
set_option maxRecDepth 100000 in
/-- loading with expansion -/
theorem loadBytes_exp (s : ByteArray) (lb b c : Nat) (w : World) (hs : s.size ≤ 100000) (hsc : s.size ≤ c) (hT : Tabs w) (c1 : w.cell? ⟨lb, 1, none⟩ = some (.bool false)) (hc : ∀ i, i < s.size → w.cell? ⟨b, i, none⟩ = some (.int .u8 ((numsB s).getD i 0))) (o : Option PSt) (ho : parL (lexL (unbom s)) [] pst0 = o) (ek : ByteArray → Option ByteArray) (hek : ∀ p, o = some p → ExpAll p.D ek) :
    Calls Tryz.prog 53 #[.pointer (some ⟨lb, 0, none⟩), .slice (some ⟨b, 0, none⟩) s.size c, .int .u64 1] w (LdPostE o ek w) := by
  have hll := Lib.lt_of_cell c1
  obtain ⟨o', htr, ho'⟩ := trim_bom s b c
  obtain ⟨W, hW⟩ : ∃ W, w.alloc (.cells #[.int .u8 239, .int .u8 187, .int .u8 191] 5) = W := ⟨_, rfl⟩
  have hbW : Below w.heap.size w W := hW ▸ (Below.refl _ w).alloc (Nat.le_refl _) _
  have HTR := Lib.hid (trim_any (some ⟨b, 0, none⟩) (some ⟨w.heap.size, 0, none⟩) s.size c 3 3 (numsB s) [239, 187, 191] W (numsB_len s) rfl hsc (fun h0 => ⟨b, 0, rfl, fun i hi => by
    rw [Nat.zero_add]
    have h1 := hc i hi
    exact (hbW.cell (Lib.lt_of_cell h1)).trans h1⟩) (fun _ => ⟨w.heap.size, 0, rfl, fun i hi => by
    have h9 : W.heap[w.heap.size]? = _ := hW ▸ heap_alloc_new w _
    simp only [World.cell?, h9]
    match i, hi with
    | 0, _ => rfl
    | 1, _ => rfl
    | 2, _ => rfl⟩))
  rw [htr] at HTR
  have HCV := Lib.hid (convert_any b o' (s.size - bomK s) (c - bomK s) ((numsB s).drop (bomK s)) 1 W (by rw [List.length_drop, numsB_len]) (.inr rfl) (fun i hi => by
    have h1 := hc (bomK s + i) (by omega)
    rw [ho' (by omega) hsc]
    rw [(hbW.cell (Lib.lt_of_cell h1)).trans h1]
    simp [List.getD]))
  rw [strOfNums_drop] at HCV
  have HPA := Lib.hid (parse_any (unbom s) W (Nat.le_trans (unbom_size s) hs) (hT.below hbW) o ho)
  have d1 : ∀ y, Below w.heap.size w y → y.cell? ⟨lb, 1, none⟩ = some (.bool false) := fun y hy => (hy.cell hll).trans c1
  have HD1 := Lib.hid d1
  have HBW := Lib.hid hbW
  have hWs : W.heap.size = w.heap.size + 1 := by rw [← hW]; simp
  have HWW := Lib.hid hW
  obtain ⟨n1, hn1⟩ : ∃ n1, s.size - bomK s = n1 := ⟨_, rfl⟩
  obtain ⟨k1, hk1⟩ : ∃ n1, c - bomK s = n1 := ⟨_, rfl⟩
  obtain ⟨n0, hn0⟩ : ∃ n1, s.size = n1 := ⟨_, rfl⟩
  rw [hn1, hk1] at HTR HCV
  rw [hn0] at HTR ⊢
  change Hid (Calls _ _ _ _ fun e w' => e = .returned (.string (unbom s)) ∧ _) at HCV
  obtain ⟨U, hU⟩ : ∃ U, unbom s = U := ⟨_, rfl⟩
  rw [hU] at HCV HPA
  clear hc htr ho' d1 hbW hW hn1 hk1 hn0 hU hT c1
  cases o with
  | none =>
    go_enter Tryz.func53, Tryz.ntmps53
    go_wp2_with (first
      | (go_at_call 76; rw [HWW.out]; (with_reducible refine HTR.out.mono ?_); rintro e w1 ⟨rfl, rfl⟩; dsimp only)
      | (go_at_call 78; (with_reducible refine HCV.out.mono ?_); rintro e w1 ⟨rfl, rfl⟩; dsimp only)
      | (go_at_call 77; (with_reducible refine HPA.out.mono ?_); rintro e w2 ⟨P, N, rfl, hb2⟩; have HB2 := Lib.hid hb2; clear hb2; dsimp only))
    go_ret2
    exact ⟨bthen HBW.out HB2.out, N, rfl⟩
  | some p =>
    have HEK := Lib.hid (hek p rfl)
    go_enter Tryz.func53, Tryz.ntmps53
    go_wp2_with (first
      | (go_at_call 76; rw [HWW.out]; (with_reducible refine HTR.out.mono ?_); rintro e w1 ⟨rfl, rfl⟩; dsimp only)
      | (go_at_call 78; (with_reducible refine HCV.out.mono ?_); rintro e w1 ⟨rfl, rfl⟩; dsimp only)
      | (go_at_call 77; (with_reducible refine HPA.out.mono ?_); rintro e w2 ⟨pb, mb, mc, n, nc, DC, lv, rfl, hpq, hcr, hb2⟩; have HB2 := Lib.hid hb2; have hlp5 := LP.of false hpq hcr; have HLP5 := Lib.hid hlp5; obtain ⟨g0, g1, g2, g3⟩ := lp_cells hlp5; have HCK := Lib.hid (check_any p.D ek pb mb n (w2.setCell ⟨pb, 2, none⟩ (.bool false)) g0 g1 g3 hlp5.mp HEK.out); have HLO := Lib.hid hpq.lo.1; have e1 := HD1.out w2 (bthen HBW.out hb2); obtain ⟨_, _, _, _, f2, _⟩ := seven_cells hpq.blk; clear hb2 hpq hcr hlp5 g0 g1 g3; dsimp only)
      | (go_at_call 79; (with_reducible refine HCK.out.mono ?_); rintro e w5 ⟨hb5, ⟨rfl, hall⟩ | ⟨N, k, rfl, hk1, hk2⟩⟩ <;> have HB5 := Lib.hid hb5 <;> clear hb5 <;> dsimp only))
    · have hsz := HBW.out.size
      have hb25 := (bthen HBW.out HB2.out).setCell (p := ⟨pb, 2, none⟩) (Nat.le_trans hsz HLO.out) (.bool false)
      have hb := bthen hb25 HB5.out
      go_ret2
      exact ⟨hb, .inl ⟨pb, mb, mc, n, nc, DC, lv, rfl, (HLP5.out.below HB5.out).base hsz, hall⟩⟩
    · have hsz := HBW.out.size
      have hb25 := (bthen HBW.out HB2.out).setCell (p := ⟨pb, 2, none⟩) (Nat.le_trans hsz HLO.out) (.bool false)
      have hb := bthen hb25 HB5.out
      go_ret2
      exact ⟨hb, .inr ⟨_, N, k, rfl, hk1, hk2⟩⟩
set_option maxRecDepth 100000 in
theorem loadBytesU_exp (s : ByteArray) (lb b c : Nat) (w : World) (hs : s.size ≤ 100000) (hsc : s.size ≤ c) (hT : Tabs w) (c0 : w.cell? ⟨lb, 0, none⟩ = some (.int .u64 1)) (c1 : w.cell? ⟨lb, 1, none⟩ = some (.bool false)) (hc : ∀ i, i < s.size → w.cell? ⟨b, i, none⟩ = some (.int .u8 ((numsB s).getD i 0))) (o : Option PSt) (ho : parL (lexL (unbom s)) [] pst0 = o) (ek : ByteArray → Option ByteArray) (hek : ∀ p, o = some p → ExpAll p.D ek) :
    Calls Tryz.prog 31 #[.pointer (some ⟨lb, 0, none⟩), .slice (some ⟨b, 0, none⟩) s.size c] w (LdPostE o ek w) := by
  have HLB := Lib.hid (loadBytes_exp s lb b c w hs hsc hT c1 hc o ho ek hek)
  obtain ⟨n0, hn0⟩ : ∃ n1, s.size = n1 := ⟨_, rfl⟩
  rw [hn0] at HLB ⊢
  clear hc hT c1 hs hsc hn0 ho hek
  cases o with
  | none =>
    go_enter Tryz.func31, Tryz.ntmps31
    go_wp2_with (go_at_call 53; (with_reducible refine HLB.out.mono ?_); rintro e w2 ⟨hb2, N, rfl⟩; have HB2 := Lib.hid hb2; clear hb2; dsimp only)
    go_ret2
    exact ⟨HB2.out, N, rfl⟩
  | some p =>
    go_enter Tryz.func31, Tryz.ntmps31
    go_wp2_with (go_at_call 53; (with_reducible refine HLB.out.mono ?_); rintro e w2 ⟨hb2, ⟨pb, mb, mc, n, nc, DC, lv, rfl, hlp, hall⟩ | ⟨q, N, k, rfl, hk1, hk2⟩⟩ <;> have HB2 := Lib.hid hb2 <;> clear hb2 <;> dsimp only)
    · go_ret2
      exact ⟨HB2.out, .inl ⟨pb, mb, mc, n, nc, DC, lv, rfl, hlp, hall⟩⟩
    · go_ret2
      exact ⟨HB2.out, .inr ⟨q, N, k, rfl, hk1, hk2⟩⟩
def LpPostE (o : Option PSt) (ek : ByteArray → Option ByteArray) (w : World) (e : Ending) (w' : World) : Prop :=
  Below w.heap.size w w' ∧ match o with
  | none => e = .returned (.tuple #[.slice none 0 0, .bool false])
  | some p => (∃ v, e = .returned (.tuple #[v, .bool true]) ∧ PRow w.heap.size v (p.ks.map (dataOf p (fun k => (ek k).getD ⟨#[]⟩))) w' ∧ ∀ k, Maps.has p.D (keyL8 k) = true → (ek k).isSome = true) ∨ (e = .returned (.tuple #[.slice none 0 0, .bool false]) ∧ ∃ k, Maps.has p.D (keyL8 k) = true ∧ ek k = none)
theorem props_exp (B pb mb mc n nc : Nat) (p : PSt) (DC : DataW Value) (lv : Value) (ek : ByteArray → Option ByteArray) (w : World) (hlp : LP B pb mb mc n nc p DC lv false w) (hbd : PBd 1000000 1000000 p) (hek : ExpAll p.D ek) (hall : ∀ k, Maps.has p.D (keyL8 k) = true → (ek k).isSome = true) :
    Calls Tryz.prog 32 #[.pointer (some ⟨pb, 0, none⟩)] w (PropsPost (p.ks.map (dataOf p (fun k => (ek k).getD ⟨#[]⟩))) w) :=
  props_any B pb mb mc (Maps.size p.D) nc p DC lv false (fun k => (ek k).getD ⟨#[]⟩) w ⟨hlp.blk, mp_size hlp.mp, hlp.cp, hlp.row, hlp.cr, hlp.lo⟩ (by have := hbd.dn; omega) (by have := hbd.kn; omega) (fun k hk => by have := hbd.keys k hk; omega) (fun k l hl => by have := hbd.cn k l hl; omega) (fun k hk wr hwr => by
    obtain ⟨f, hf⟩ := hek k (hbd.has k hk)
    obtain ⟨r, hr⟩ := Option.isSome_iff_exists.1 (hall k (hbd.has k hk))
    rw [hr] at hf
    refine (getE_any B pb mb mc n nc f p DC lv k r wr (hlp.below hwr) (by have := hbd.keys k hk; omega) (hbd.has k hk) hf).mono ?_
    rintro e w' ⟨rfl, hb⟩
    dsimp only
    rw [hr]
    exact ⟨true, rfl, hb⟩)
set_option maxHeartbeats 2000000 in
set_option maxRecDepth 100000 in
theorem loadProps_exp (s : ByteArray) (w : World) (hs : s.size ≤ 100000) (hT : Tabs w) (o : Option PSt) (ho : parL (lexL (unbom s)) [] pst0 = o) (ek : ByteArray → Option ByteArray) (hek : ∀ p, o = some p → ExpAll p.D ek) :
    Calls Tryz.prog 13 #[.string s, .int .i64 1, .bool false] w (LpPostE o ek w) := by
  obtain ⟨W1, hW1⟩ : ∃ W, w.alloc (.cells #[.int .u64 1, .bool false, .bool false] 64) = W := ⟨_, rfl⟩
  have hb1 : Below w.heap.size w W1 := hW1 ▸ (Below.refl _ w).alloc (Nat.le_refl _) _
  have hs1 : W1.heap.size = w.heap.size + 1 := by rw [← hW1]; simp
  have hblk : W1.heap[w.heap.size]? = _ := hW1 ▸ heap_alloc_new w _
  obtain ⟨W2, hW2⟩ : ∃ W, Lib.bytesWorld W1 5 s = W := ⟨_, rfl⟩
  have hb2 : Below W1.heap.size W1 W2 := hW2 ▸ ⟨rfl, rfl, rfl, by rw [Lib.bytesWorld_size]; omega, fun j hj => Lib.bytesWorld_at_old W1 5 s j hj⟩
  obtain ⟨cap, hcap⟩ : ∃ c, grownCap W1 s.size 0 5 = c := ⟨_, rfl⟩
  have hcv := Lib.run_convert_string_bytes (P := Tryz.prog) W1 9 70 5 s Tryz.underlying9 Tryz.underlying70 Tryz.underlying5
  rw [hW2, hcap, hs1] at hcv
  have hcell : ∀ i, i < s.size → W2.cell? ⟨w.heap.size + 1, i, none⟩ = some (.int .u8 ((numsB s).getD i 0)) := fun i hi => by
    have := numsB_cell s W1 i hi
    rwa [hW2, hs1] at this
  have hblk2 : W2.heap[w.heap.size]? = _ := (hb2.block _ (by omega)).trans hblk
  have hb02 := bthen hb1 hb2
  have HLB := Lib.hid (loadBytesU_exp s w.heap.size (w.heap.size + 1) cap W2 hs (hcap ▸ grownCap_ge _ _ _ _) (hT.below hb02) (by simp [World.cell?, hblk2]) (by simp [World.cell?, hblk2]) hcell o ho ek hek)
  have HB02 := Lib.hid hb02
  have HW1 := Lib.hid hW1
  obtain ⟨n0, hn0⟩ : ∃ n1, s.size = n1 := ⟨_, rfl⟩
  rw [hn0] at hcv HLB
  have HBD : Hid (∀ p, o = some p → PBd 1000000 1000000 p) := Lib.hid (fun p hp => parL_small (unbom s) p (Nat.le_trans (unbom_size s) hs) (hp ▸ ho))
  clear hb1 hblk hb2 hcap hcell hblk2 hb02 hW1 hW2 hn0 hs hT ho hs1
  unfold LpPostE
  cases o with
  | none =>
    go_enter Tryz.func13, Tryz.ntmps13
    go_wp2_with (first
      | (rw [HW1.out])
      | (go_at_call 31; (with_reducible refine HLB.out.mono ?_); rintro e w3 ⟨hb3, N, rfl⟩; have HB3 := Lib.hid hb3; clear hb3; dsimp only))
    go_ret2
    exact ⟨bthen HB02.out HB3.out, rfl⟩
  | some p =>
    have hbd := HBD.out p rfl
    have HEK := Lib.hid (hek p rfl)
    go_enter Tryz.func13, Tryz.ntmps13
    go_wp2_with (first
      | (rw [HW1.out])
      | (go_at_call 31; (with_reducible refine HLB.out.mono ?_); rintro e w3 ⟨hb3, ⟨pb, mb, mc, n, nc, DC, lv, rfl, hlp, hall⟩ | ⟨q, N, k, rfl, hk1, hk2⟩⟩ <;> have HB3 := Lib.hid hb3 <;> clear hb3 <;> dsimp only)
      | (go_at_call 32; (with_reducible refine (props_exp W2.heap.size pb mb mc n nc p DC lv ek w3 hlp hbd HEK.out hall).mono ?_); rintro e w4 ⟨v, rfl, hv, hb4⟩; have HB4 := Lib.hid hb4; have HV := Lib.hid hv; clear hb4 hv; dsimp only))
    · go_ret2
      have hb03 := bthen HB02.out HB3.out
      exact ⟨bthen hb03 HB4.out, .inl ⟨v, rfl, HV.out.base hb03.size, hall⟩⟩
    · go_ret2
      exact ⟨bthen HB02.out HB3.out, .inr ⟨rfl, k, hk1, hk2⟩⟩
end Go.Proofs.YtackciefmdiphaaGreatDoor

set_option linter.unusedVariables false
namespace Go.Proofs.YtackciefmdiphaaGreatDoor
open Go.RowKit Plain Go.Maps

/-- the same, on the bytes' lists: for the kernel to reckon -/
def zixD (s t : ByteArray) : Nat → Nat → Option Nat
  | 0, _ => none
  | f + 1, i => if i + t.size ≤ s.size then (if (s.extract i (i + t.size)).data.toList == t.data.toList then some i else zixD s t f (i + 1)) else none
theorem zixD_eq (s t : ByteArray) : ∀ (f i : Nat), zixN s t f i = zixD s t f i := by
  intro f
  induction f with
  | zero => intro i; rfl
  | succ f ih =>
    intro i
    unfold zixN zixD
    rw [ByteArray.toList_eq, ByteArray.toList_eq, ih]
def memD (key : ByteArray) (keys : List ByteArray) : Bool := keys.any fun k => key.data.toList == k.data.toList
theorem memD_eq (key : ByteArray) (keys : List ByteArray) : memK key keys = memD key keys := by
  unfold memK memD
  congr 1
  funext k
  rw [ByteArray.toList_eq, ByteArray.toList_eq]
def expD (D : ByteArray → ByteArray) : Nat → List ByteArray → ByteArray → Option (Option ByteArray)
  | 0, _, _ => none
  | f + 1, keys, s =>
    if s.size ≤ 1152921504606846976 then
      if 64 < keys.length then some none
      else match zixD s dlB (s.size + 2) 0 with
      | none => some (some s)
      | some p => match zixD (s.extract (p + 2) s.size) brB ((s.extract (p + 2) s.size).size + 2) 0 with
        | none => some none
        | some q =>
          if memD (s.extract (p + 2) (p + 2 + q)) keys then some none
          else match expD D f (keys ++ [s.extract (p + 2) (p + 2 + q)]) (D (s.extract (p + 2) (p + 2 + q))) with
          | none => none
          | some none => some none
          | some (some v) => expD D f keys (s.extract 0 p ++ v ++ s.extract (p + 2 + q + 1) s.size)
    else none
theorem expD_eq (D : ByteArray → ByteArray) : ∀ (f : Nat) (keys : List ByteArray) (s : ByteArray), expF D f keys s = expD D f keys s := by
  intro f
  induction f with
  | zero => intro keys s; rfl
  | succ f ih =>
    intro keys s
    unfold expF expD zix
    simp only [zixD_eq, memD_eq, ih]
    try rfl
def txLD : ByteArray := ⟨#[97, 61, 98, 10, 99, 58, 32, 36, 123, 97, 125]⟩
def kA : ByteArray := ⟨#[97]⟩
def kB : ByteArray := ⟨#[98]⟩
def kC : ByteArray := ⟨#[99]⟩
def vC : ByteArray := ⟨#[36, 123, 97, 125]⟩
theorem lexL_ld : lexL txLD = [⟨2, 0, kA⟩, ⟨3, 2, kB⟩, ⟨2, 4, kC⟩, ⟨3, 7, vC⟩, ⟨1, 11, ⟨#[]⟩⟩] := lexL_eq _ 40 _ (by rfl)
def pLD : PSt := putV (addC (addK (putV (addC (addK pst0 kA) kA []) kA kB) kC) kC []) kC vC
theorem parL_ld : parL (lexL (unbom txLD)) [] pst0 = some pLD := by
  rw [unbom_no (by rfl), lexL_ld]
  unfold parL
  simp
  unfold parL
  simp
  unfold parL
  simp
  rfl
def ekLD (k : ByteArray) : Option ByteArray := some kB
theorem pLD_D : pLD.D = ((DataW.map []).put (keyL8 kA) (.lit (.string kB.data.toList))).put (keyL8 kC) (.lit (.string vC.data.toList)) := by rfl
theorem ea_LD : ExpAll pLD.D ekLD := by
  intro k hk
  rw [pLD_D] at hk
  by_cases h1 : k = kC
  · subst h1
    exact ⟨10, (expD_eq _ _ _ _).trans (by rfl)⟩
  · have hne : keyL8 k ≠ keyL8 kC := fun e => h1 (keyL8_inj e)
    rw [has_put_other hne] at hk
    by_cases h2 : k = kA
    · subst h2
      exact ⟨10, (expD_eq _ _ _ _).trans (by rfl)⟩
    · have hne2 : keyL8 k ≠ keyL8 kA := fun e => h2 (keyL8_inj e)
      rw [has_put_other hne2] at hk
      cases hk
theorem lLD : pLD.ks.map (dataOf pLD (fun k => (ekLD k).getD ⟨#[]⟩)) = [⟨kA, kB, kB, []⟩, ⟨kC, vC, kB, []⟩] := by rfl
set_option maxHeartbeats 2000000 in
set_option maxRecDepth 100000 in
theorem loads_any (w : World) (hT : Tabs w) : Calls Tryz.prog 10 #[] w fun e w' => e = .returned (.bool true) ∧ Below w.heap.size w w' := by
  have HL : Hid (Calls Tryz.prog 13 #[.string ⟨#[97, 61, 98, 10, 99, 58, 32, 36, 123, 97, 125]⟩, .int .i64 1, .bool false] w fun e w' => Below w.heap.size w w' ∧ ∃ v, e = .returned (.tuple #[v, .bool true]) ∧ PRow w.heap.size v [⟨kA, kB, kB, []⟩, ⟨kC, vC, kB, []⟩] w') := Lib.hid ((loadProps_exp txLD w (by decide) hT (some pLD) parL_ld ekLD (fun p hp => by injection hp with hp; subst hp; exact ea_LD)).mono (by
    rintro e w' ⟨hb, ⟨v, rfl, hr, _⟩ | ⟨_, k, _, hk⟩⟩
    · rw [lLD] at hr
      exact ⟨hb, v, rfl, hr⟩
    · cases hk))
  clear hT
  go_enter Tryz.func10, Tryz.ntmps10
  go_wp2_with (go_at_call 13; (with_reducible refine HL.out.mono ?_); rintro e w1 ⟨hb1, v, rfl, us, hu1, hu2, _⟩; obtain ⟨a2, cp2, rfl⟩ := slq_any hu2; obtain ⟨g2, rfl⟩ := slq_pos hu2 (by decide); obtain ⟨u0, hu0⟩ : ∃ u, us[1]? = some u := ⟨_, List.getElem?_eq_getElem (by rw [hu1]; decide)⟩; obtain ⟨z0, z1, z2, _⟩ := prow_cells hu2 (i := 1) (d := ⟨kC, vC, kB, []⟩) (by decide) rfl hu0; change w1.cell? ⟨g2, 4, none⟩ = some (.string ⟨#[99]⟩) at z0; change w1.cell? ⟨g2, 5, none⟩ = some (.string ⟨#[36, 123, 97, 125]⟩) at z1; change w1.cell? ⟨g2, 6, none⟩ = some (.string ⟨#[98]⟩) at z2; change Below _ _ _ at hb1; have HB1 := Lib.hid hb1; clear hu0 hu1 hu2 hb1; dsimp only)
  go_ret
  exact ⟨rfl, HB1.out⟩
end Go.Proofs.YtackciefmdiphaaGreatDoor
