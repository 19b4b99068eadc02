/- The walk of (*Properties).WriteComment, one pair, no prefix, into a strings.Builder. -/
import Derived.Test.YtcbfoieamcckoaaDoorQGiven
import Derived.Test.YtcbfoieamcckoaaDoorQWr
set_option linter.unusedVariables false
namespace Go.Proofs.YtcbfoieamcckoaaDoor
open Go.RowKit Plain Go.Maps

theorem wpList_lookup_own_str {P : Program} (w : World) {ops : Array Oper} {rest : List Oper} {o : Oper} {a : Act} {Q : Exit → Act → World → Prop}
    (hg : o.guard = none) (m x : Operand) (t : TypeId) (hop : o.op = Op.lookup t m x false)
    (k e : TypeId) (K : Keyed P k) (ht : P.underlying t = some (.map k e)) (he : P.underlying e = some .string) (hz : (zeroValue e).run P w = .ok (.string ⟨#[]⟩) w) (b n : Nat) (D : DataW Unit) (v : ByteArray)
    (hm : a.eval m = .map (some b)) (hown : w.ownsMap P k (plainElem P e) b n D) (key : Value) (kl : Lit) (hx : a.eval x = key) (hkey : keyOf P k key = some kl)
    (hat : D.atKey kl (.lit (.string [])) = .lit (.string v.data.toList))
    (hK : wpList P ops Q rest (a.put o.dst (.string v)) w) :
    wpList P ops Q (o :: rest) a w := by
  refine wpList_plain hg fun K' hK' => ?_
  obtain ⟨u, ps, hrun, hu⟩ := hown.lookup K ht hz (zd := .lit (.string [])) (zp := []) (plainElem_string he (by unfold maxLen; decide)) hkey
  obtain ⟨s, rfl, hsz, hs⟩ := plainElem_string_inv he hu
  have h1 : (DataW.lit (H := Unit) (.string v.data.toList)) = .lit (.string s.data.toList) := hat.symm.trans (congrArg Prod.fst hsz)
  have h2 : v = s := by
    injection h1 with h1
    injection h1 with h1
    exact ByteArray.ext (Array.toList_inj.1 h1)
  subst h2
  unfold Oper.wp
  simp [execOp, hop, hm, hx, hrun, Result.andThen]
  exact hK' _ _ hK
theorem at_D1 (k v : ByteArray) : (D1 k v).atKey (.string k.data.toList) (.lit (.string [])) = .lit (.string v.data.toList) := by
  simp [D1, DataW.put, DataW.atKey, DataW.insert, Lit.sameKey]
theorem row_one {w : World} {B : Nat} {lv : Value} {k : ByteArray} (h : w.ownsRow B 9 1 lv 1 [.string k]) : ∃ g cap, lv = .slice (some ⟨g, 0, none⟩) 1 cap ∧ w.cell? ⟨g, 0, none⟩ = some (.string k) := by
  rcases h.2 with ⟨_, h0⟩ | ⟨g, cap, cur, hv, _, hg, hn, _, hcs, htk⟩
  · omega
  · refine ⟨g, cap, hv, ?_⟩
    rw [Lib.cell_of_heap hg]
    have : (cur.toList.take 1)[0]? = some (.string k) := by rw [show cur.toList.take 1 = [.string k] from htk]; rfl
    simpa using this
/-- what is written -/
def lineOf (k S v : ByteArray) : ByteArray := k ++ S ++ v ++ ⟨#[10]⟩
theorem line_any (b : Nat) (k S v : ByteArray) (w : World) (h : IsB b [] w) (hk : k.size ≤ 1000000) (hS : S.size ≤ 10) (hv : v.size ≤ 1000000) :
    Calls Tryd.prog 22 #[.iface 40 (.pointer (some ⟨b, 0, none⟩)), .string (k ++ S ++ v ++ ⟨#[10]⟩)] w fun e w' => ∃ N : Nat, e = .returned (.tuple #[.int .i64 N, .nilIface]) ∧ (N ≤ 3000000 ∧ N = (lineOf k S v).size) ∧ IsB b (lineOf k S v).data.toList w' ∧ Below b w w' := by
  have hsz : (k ++ S ++ v ++ ⟨#[10]⟩ : ByteArray).size = k.size + S.size + v.size + 1 := by simp [ByteArray.size_append]; rfl
  refine (ioWr_any b [] _ w h (by rw [hsz]; simp only [List.length_nil]; omega)).mono ?_
  rintro e w' ⟨rfl, hi, hb, _⟩
  exact ⟨_, rfl, ⟨by rw [hsz]; omega, rfl⟩, hi, hb⟩
theorem empty_special (R : Nat) (h : NiceR R) (pos : Nat) (hp : pos < (⟨#[]⟩ : ByteArray).size) : (Utf8.decode ⟨#[]⟩ pos).1 ≠ R := absurd hp (by simp [ByteArray.size])
set_option maxHeartbeats 4000000 in
set_option maxRecDepth 100000 in
theorem wc_any (B pb mb mc : Nat) (k v sep S : ByteArray) (lv : Value) (b : Nat) (w : World) (h : QS B pb mb mc 1 (D1 k v) [.string k] lv true sep w) (hb : IsB b [] w) (hk : k.size ≤ 1000000) (hv : v.size ≤ 1000000) (hS : S.size ≤ 10) (hsep : sep.size ≤ 10)
    (hnk : NiceL k.data.toList) (hnv : NiceL v.data.toList) (hT : TabsB b w) (hc : (sep = ⟨#[]⟩ ∧ S = ⟨#[32, 61, 32]⟩) ∨ (¬ sep.size = 0 ∧ S = sep)) :
    Calls Tryd.prog 11 #[.pointer (some ⟨pb, 0, none⟩), .iface 40 (.pointer (some ⟨b, 0, none⟩)), .string ⟨#[]⟩, .int .u64 1] w
      fun e w' => ∃ N : Nat, e = .returned (.tuple #[.int .i64 N, .nilIface]) ∧ N = (lineOf k S v).size ∧ IsB b (lineOf k S v).data.toList w' ∧ Below b w w' := by
  obtain ⟨c2, c3, c5, c6, _, _, _⟩ := seven_cells h.blk
  obtain ⟨g, cap, rfl, r0⟩ := row_one h.row
  have HM := Lib.hid h.mp
  have HBB := Lib.hid hb
  have HT := Lib.hid hT
  have HNK := Lib.hid hnk
  have HNV := Lib.hid hnv
  have hkm : k.size ≤ maxLen := by unfold maxLen; omega
  have hat := Lib.hid (at_D1 k v)
  have HBL := Lib.hid (Below.refl b w)
  clear h hb hT hnk hnv
  obtain ⟨Z, hZ⟩ : ∃ Z, lineOf k S v = Z := ⟨_, rfl⟩
  go_enter Tryd.func11, Tryd.ntmps11
  go_wp2
  go_loopg [27, 8, 9] 1 (fun gh iv nv ev wr => ∃ i N : Nat, iv = .int .i64 i ∧ i ≤ 1 ∧ gh = 1 - i ∧ nv = .int .i64 N ∧ ev = .nilIface ∧ N ≤ 3000000 ∧ Hid ((i = 0 ∧ N = 0 ∧ w = wr) ∨ (i = 1 ∧ N = Z.size ∧ IsB b Z.data.toList wr ∧ Below b w wr)))
  case atStart => exact ⟨0, 0, rfl, by omega, by omega, rfl, rfl, by omega, Lib.hid (.inl ⟨rfl, rfl, rfl⟩)⟩
  case round =>
    obtain ⟨i, N, rfl, hi, rfl, rfl, rfl, hN, HI⟩ := hrel
    rcases HI.out with ⟨rfl, rfl, rfl⟩ | ⟨rfl, hz', hq', hb'⟩
    · clear HI
      rcases hc with ⟨rfl, rfl⟩ | ⟨hs0, rfl⟩
      rotate_left
      have hse : S.toList.isEmpty = false := by
        rw [ByteArray.toList_eq]
        cases h9 : S.data.toList with
        | nil => exact absurd (by rw [Lib.size_eq, h9]; rfl) hs0
        | cons a l => rfl
      all_goals
        go_wp2_with (at_lookup; refine wpList_lookup_own_str _ rfl _ _ 36 rfl 9 9 lawS Tryd.underlying36 Tryd.underlying9 (zeroS _) mb 1 (D1 k v) v rfl HM.out _ _ rfl (WideMaps.keyOf_string_mk Tryd.underlying9 hkm) hat.out ?_)
        go_wp2_with (go_at_call 23; (with_reducible refine (enc1_any k _ _ (by omega) HNK.out (by decide) key_special HT.out.tabs).mono ?_); rintro e w1 ⟨rfl, hb1⟩; dsimp only)
        have HB1 : Hid (Below b w w1) := Lib.hid (hb1.mono (Nat.le_of_lt HBB.out.lt))
        have HI1 : Hid (IsB b [] w1) := Lib.hid (HBB.out.below hb1)
        clear hb1
        go_wp2_with (go_at_call 23; (with_reducible refine (enc1_any v _ _ (by omega) HNV.out (by decide) empty_special (HT.out.below HB1.out).tabs).mono ?_); rintro e w2 ⟨rfl, hb2⟩; dsimp only)
        have HB2 : Hid (Below b w w2) := Lib.hid (HB1.out.trans (hb2.mono (Nat.le_of_lt HI1.out.lt)))
        have HI2 : Hid (IsB b [] w2) := Lib.hid (HI1.out.below hb2)
        clear hb2
        go_wp2_with (go_at_call 22; (with_reducible refine (line_any b k _ v _ HI2.out (by omega) (by first | omega | decide) (by omega)).mono ?_); rintro e w3 ⟨M, rfl, ⟨hM, hMz⟩, hi3, hb3⟩; rw [hZ] at hi3 hMz; have HMZ := Lib.hid hMz; clear hMz; dsimp only)
        have HI3 := Lib.hid hi3
        have HB3 := Lib.hid (HB2.out.trans hb3)
        clear hi3 hb3
        go_wp2
        go_roundg 0
        case measure => omega
        case rel => exact ⟨1, M, by go_num, by omega, rfl, by first | rfl | go_num, rfl, hM, Lib.hid (.inr ⟨rfl, HMZ.out, HI3.out, HB3.out⟩)⟩
    · have HZS := Lib.hid hz'
      have HF := Lib.hid hq'
      have HBF := Lib.hid hb'
      clear HI hq' hb' hz'
      go_wp2_with fail
      refine bodyPost_ret (v := .tuple #[.int .i64 N, .nilIface]) (by simp [results, Tryd.results11, go_sem]; try rfl) (by rfl) ?_
      exact ⟨N, rfl, by rw [hZ]; exact HZS.out, by rw [hZ]; exact HF.out, HBF.out⟩
end Go.Proofs.YtcbfoieamcckoaaDoor
