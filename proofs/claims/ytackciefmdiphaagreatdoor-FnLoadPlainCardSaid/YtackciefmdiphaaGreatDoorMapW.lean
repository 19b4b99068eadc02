/- Map of properties in memory: a copy of their map. -/
import Derived.Test.YtackciefmdiphaaGreatDoorKeys
import Derived.Maps.RangeWalk
import Derived.Maps.Ext
import Derived.LoopTactic
set_option linter.unusedVariables false
namespace Go.Proofs.YtackciefmdiphaaGreatDoor
open Go.RowKit Plain Go.Maps

theorem keyL8_k (k : ByteArray) : WideAt.IsKeyLit (keyL8 k) := by unfold keyL8; trivial
theorem str_key_inv {key : Value} {kl : Lit} (h : keyOf Tryz.prog 9 key = some kl) : ∃ s : ByteArray, key = .string s ∧ kl = .string s.data.toList ∧ s.size ≤ maxLen := by
  have hk := Tryz.underlying9
  cases key <;> simp [keyOf, hk, mapKey] at h
  exact ⟨_, rfl, h.2.symm, h.1⟩
/-- the step of a range over a map of texts by texts -/
theorem next_ss (w : World) {ops : Array Oper} {rest : List Oper} {o : Oper} {a : Act} {Q : Exit → Act → World → Prop}
    (hg : o.guard = none) (it : Operand) (hop : o.op = Op.next it false)
    (b r n : Nat) (D : DataW Unit) (left : Lit → Bool) (cnt : Nat) (hit : a.eval it = .pointer (some ⟨r, 0, none⟩)) (h : w.ranges Tryz.prog 9 (plainElem Tryz.prog 9) b r n D left cnt)
    (hDone : cnt = 0 → (∀ kl, left kl = false) → wpList Tryz.prog ops Q rest (a.put o.dst (.tuple #[.bool false])) w)
    (hMore : ∀ (x c : ByteArray) (w' : World) (cnt' : Nat), x.size ≤ maxLen → c.size ≤ maxLen → left (keyL8 x) = true → (∀ zd, D.atKey (keyL8 x) zd = .lit (.string c.data.toList)) → w'.ranges Tryz.prog 9 (plainElem Tryz.prog 9) b r n D (fun z => left z && !z.sameKey (keyL8 x)) cnt' → cnt' < cnt →
      w.grownBy w' (some r) → w'.heap.size = w.heap.size → (Instr.entry (.pointer (some ⟨r, 0, none⟩))).run Tryz.prog w' = .ok (.tuple #[.string x, .string c]) w' → wpList Tryz.prog ops Q rest (a.put o.dst (.tuple #[.bool true, .string x, .string c])) w') :
    wpList Tryz.prog ops Q (o :: rest) a w :=
  wpList_next_ranges w hg it hop 9 lawS (plainElem Tryz.prog 9) Value.string Value.string (fun key kl hkey => by obtain ⟨x, rfl, _⟩ := str_key_inv hkey; exact ⟨x, rfl⟩) (fun v y hv => by obtain ⟨c, rfl, _⟩ := plainElem_string_inv Tryz.underlying9 hv; exact ⟨c, rfl⟩)
    b r n D left cnt hit h hDone (fun x c kl y w' cnt' hkey hlk hv hat hrg hlt hgr hsz hen => by
      obtain ⟨x', ex, rfl, hwx⟩ := str_key_inv hkey
      cases ex
      obtain ⟨c', ec, rfl, hwc⟩ := plainElem_string_inv Tryz.underlying9 hv
      cases ec
      exact hMore x c w' cnt' hwx hwc hlk hat hrg hlt hgr hsz hen)
/-- 'm[k]' at texts by texts -/
theorem look_ss (w : World) {ops : Array Oper} {rest : List Oper} {o : Oper} {a : Act} {Q : Exit → Act → World → Prop}
    (hg : o.guard = none) (m x : Operand) (hop : o.op = Op.lookup 83 m x false) (b n : Nat) (D : DataW Unit)
    (hm : a.eval m = .map (some b)) (hown : MpS w b n D) (k : ByteArray) (hx : a.eval x = .string k) (hk : k.size ≤ maxLen)
    (hK : ∀ c : ByteArray, D.atKey (keyL8 k) (.lit (.string [])) = .lit (.string c.data.toList) → wpList Tryz.prog ops Q rest (a.put o.dst (.string c)) w) :
    wpList Tryz.prog ops Q (o :: rest) a w := by
  refine wpList_plain hg fun K' hK' => ?_
  obtain ⟨v, ps, hrun, hv⟩ := hown.lookup (t := 83) (e := 9) lawS Tryz.underlying83 (zeroS w) (plainElem_string (H := Unit) Tryz.underlying9 (by unfold maxLen; decide)) (WideMaps.keyOf_string_mk Tryz.underlying9 hk)
  obtain ⟨c, rfl, hz, hs⟩ := plainElem_string_inv Tryz.underlying9 hv
  unfold Oper.wp
  simp [execOp, hop, hm, hx, hrun, Result.andThen]
  exact hK' _ _ (hK c (congrArg Prod.fst hz))
theorem size_le_own {w : World} {mb n : Nat} {D : DataW Unit} (h : MpS w mb n D) : Maps.size D ≤ n := h.size_le
def MapPost (D : DataW Unit) (w : World) (e : Ending) (w' : World) : Prop := ∃ M, e = .returned (.map (some M)) ∧ w.heap.size ≤ M ∧ MpS w' M (Maps.size D) D ∧ Below w.heap.size w w'
set_option maxHeartbeats 2000000 in
set_option maxRecDepth 100000 in
theorem map_any (pb mb n : Nat) (D : DataW Unit) (w : World) (c3 : w.cell? ⟨pb, 3, none⟩ = some (.map (some mb))) (hm : MpS w mb n D) (hn : n ≤ 10000000) :
    Calls Tryz.prog 50 #[.pointer (some ⟨pb, 0, none⟩)] w (MapPost D w) := by
  unfold MapPost
  have hmm := @run_makeMap Tryz.prog
  have hbl := hm.lt
  have hpl := Lib.lt_of_cell c3
  have e1 : (w.alloc (.map #[] 0)).heap.size = w.heap.size + 1 := by simp
  have hmax : Maps.size D ≤ 10000000 := Nat.le_trans (size_le_own hm) hn
  have HM := Lib.hid hm
  go_enter Tryz.func50, Tryz.ntmps50
  go_wp2_with (first
    | (at_range; refine wpList_range_own _ rfl _ 83 rfl 9 9 lawS Tryz.underlying83 _ mb n _ rfl (HM.out.alloc _) ?_; intro w0 hrg0 hg0 hs0))
  (try rw [e1] at hrg0)
  (try rw [e1] at hs0)
  have HRG0 := Lib.hid hrg0
  have HS0 := Lib.hid hs0
  have HG0 := Lib.hid hg0
  have HSZ := Lib.hid (size_le_own hm)
  clear hrg0 hs0 hg0 hm c3
  go_loopw [4] (fun _ wr => ∃ (left : Lit → Bool) (cnt : Nat) (Dout : DataW Unit), Hid (wr.ranges Tryz.prog 9 (plainElem Tryz.prog 9) mb (w.heap.size + 1) n D left cnt) ∧ cnt ≤ Maps.size D ∧
      Hid (MpS wr w.heap.size (Maps.size D - cnt) Dout) ∧ Hid (Agree Dout D left) ∧ Hid (Below w.heap.size w wr))
    (fun _ wr => wr.rangeLeft mb (w.heap.size + 1))
  case atStart =>
    exact ⟨_, _, .map [], HRG0, Nat.le_refl _, Lib.hid (((World.ownsMap_made _ _ _ _).kept HG0.out (by simp)).mono (Nat.zero_le _)), Lib.hid (agree_start D), Lib.hid (((Below.refl _ _).alloc (Nat.le_refl _) _).grown HG0.out (by simp) (fun j hj => by cases hj))⟩
  case round =>
    obtain ⟨left, cnt, Dout, HRG, hcs, HOUT, HA, HNX⟩ := hrel
    go_wp2_with (first
      | (at_next; refine next_ss _ rfl _ rfl mb (w.heap.size + 1) n _ _ _ rfl HRG.out ?_ ?_))
    · intro hc0 hl0
      go_wp2
      go_ret
      subst hc0
      have e := agree_end HA.out hl0 (HOUT.out.canon lawS) (HRG.out.owns.canon lawS)
      subst e
      exact ⟨w.heap.size, rfl, Nat.le_refl _, by simpa using HOUT.out, HNX.out⟩
    · intro x c w1 cnt1 hwx hwc hlx hat hrg1 hlt hg1 hs1 hen
      have HOUT1 := Lib.hid (HOUT.out.kept hg1 (by simp))
      have HAT := Lib.hid hat
      have HRG1 := Lib.hid hrg1
      have HG1 := Lib.hid hg1
      have HLX := Lib.hid hlx
      clear hat hrg1 hg1 hlx
      go_wp2_with (first
        | (at_mapUpdate; refine wpList_mapUpdate_own _ rfl _ _ _ 83 rfl 9 9 lawS Tryz.underlying83 (plainElem Tryz.prog 9) w.heap.size _ _ rfl HOUT1.out (by unfold maxLen; omega) _ _ _ rfl rfl (WideMaps.keyOf_string_mk Tryz.underlying9 hwx) _ [] (plainElem_string Tryz.underlying9 hwc) ?_; intro w2 hout2 hg2; go_frame))
      have hrg2 := HRG1.out.kept hg2 (fun e => by have := Option.some.inj e; omega) (fun e => by have := Option.some.inj e; omega)
      have HRG2 := Lib.hid hrg2
      have HOUT2 : Hid (MpS w2 w.heap.size (Maps.size D - cnt1) _) := Lib.hid (hout2.mono (by omega))
      have HB2 : Hid (Below w.heap.size w w2) := Lib.hid ((HNX.out.grown HG1.out HNX.out.size (fun j hj => by cases hj; exact Nat.le_succ _)).grown hg2 (by have := HNX.out.size; omega) (fun j hj => by cases hj; exact Nat.le_refl _))
      have HA2 := Lib.hid (agree_step HA.out HOUT.out.isMap (keyL8_k x) HAT.out)
      clear hrg2 hout2 hg2 hen
      go_roundw
      case rel =>
        exact ⟨_, cnt1, _, HRG2, by omega, HOUT2, HA2, HB2⟩
      case measure => rw [HRG2.out.left_eq, HRG.out.left_eq]; exact hlt
end Go.Proofs.YtackciefmdiphaaGreatDoor
