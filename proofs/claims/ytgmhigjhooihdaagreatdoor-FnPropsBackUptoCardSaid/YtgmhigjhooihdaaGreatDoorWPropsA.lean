/- The walk of impl.WriteProps at any properties. -/
import Derived.Test.YtgmhigjhooihdaaGreatDoorWText
set_option linter.unusedVariables false
namespace Go.Proofs.YtgmhigjhooihdaaGreatDoor
open Go.RowKit Plain Go.Maps

def WrPost (Z : List UInt8) (w : World) (e : Ending) (w' : World) : Prop := e = .returned (.tuple #[.string ⟨Z.toArray⟩, .int .i64 (Z.length : Int)]) ∧ Below w.heap.size w w'
def pfx (nt : Bool) : ByteArray := if nt then ⟨#[35, 32]⟩ else ⟨#[]⟩
theorem wcA_any (nt : Bool) (B pb mb mc : Nat) (p : PSt) (DC : DataW Value) (lv : Value) (sep S : ByteArray) (e : Nat) (he : e = 1 ∨ e = 2) (b : Nat) (w : World) (hG : ∀ y, Below b w y → PGr B pb mb mc p DC lv true sep y) (hb : IsB b [] w) (hT : ∀ y, Below b w y → WTab y)
    (hn : p.ks.length ≤ 100000) (hS : S.size ≤ 10) (hsep : sep.size ≤ 10) (hK : ∀ k ∈ p.ks, KOK p k ∧ COK p k) (hc : (sep = ⟨#[]⟩ ∧ S = ⟨#[32, 61, 32]⟩) ∨ (¬ sep.size = 0 ∧ S = sep)) :
    Calls Tryz.prog 46 #[.pointer (some ⟨pb, 0, none⟩), .iface 88 (.pointer (some ⟨b, 0, none⟩)), .string (pfx nt), .int .u64 (e : Int)] w
      fun e' w' => ∃ N : Nat, e' = .returned (.tuple #[.int .i64 (N : Int), .nilIface]) ∧ N = (allE S e nt p p.ks).length ∧ WST b w w' (allE S e nt p p.ks) := by
  cases nt with
  | false => exact wcP_any B pb mb mc p DC lv sep S e he b w hG hb hT hn hS hsep (fun k hk => (hK k hk).1) hc
  | true => exact wcN_any B pb mb mc p DC lv sep S e he b w hG hb hT hn hS hsep (fun k hk => (hK k hk).1) (fun k hk => (hK k hk).2) hc
set_option maxHeartbeats 8000000 in
set_option maxRecDepth 100000 in
theorem wpropsA_any (nt : Bool) (e : Nat) (he : e = 1 ∨ e = 2) (A : Option Addr) (n c : Nat) (l : List PropD) (sep S : ByteArray) (w : World) (hr : PrA A l w) (hn : l.length = n) (hln : n ≤ 10000) (hnd : (l.map (·.key)).Nodup) (hz : ∀ d ∈ l, SZ d) (hS : S.size ≤ 10) (hsep : sep.size ≤ 10) (hT : WTab w)
    (hc : (sep = ⟨#[]⟩ ∧ S = ⟨#[32, 61, 32]⟩) ∨ (¬ sep.size = 0 ∧ S = sep)) :
    Calls Tryz.prog 24 #[.slice A n c, .string (pfx nt), .string sep, .int .i64 (e : Int)] w (WrPost (allE S e nt (l.foldl addP pst0) (l.foldl addP pst0).ks) w) := by
  unfold WrPost
  have HG := Lib.hid (givenA_any A n c l w hr hn (by omega) (fun d hd => ⟨(hz d hd).k0, by have := (hz d hd).k; omega, by have := (hz d hd).v; omega, by have := (hz d hd).n; omega⟩))
  have HT := Lib.hid hT
  have HKK := Lib.hid (koks l hnd hz)
  have HC := Lib.hid hc
  obtain ⟨P, hP⟩ : ∃ p, l.foldl addP pst0 = p := ⟨_, rfl⟩
  have HP := Lib.hid hP
  obtain ⟨Z, hZ⟩ : ∃ Z, allE S e nt P P.ks = Z := ⟨_, rfl⟩
  have HZ := Lib.hid hZ
  obtain ⟨pf, hpf⟩ : ∃ x, pfx nt = x := ⟨_, rfl⟩
  have HPF := Lib.hid hpf
  have he2 : (e : Int) ≤ 2 := by omega
  rw [hP] at HKK ⊢
  rw [hZ, hpf]
  have hlP : P.ks.length ≤ 100000 := by
    have := (fold_facts l pst0 isMap_empty hnd (fun d hd => ⟨rfl, rfl⟩)).1
    rw [hP] at this
    rw [this]
    simp [pst0]
    omega
  have HE := Lib.hid he
  clear hr hT hc hz hnd hP hZ hpf he
  go_enter Tryz.func24, Tryz.ntmps24
  go_wp2_with (go_at_call 45; (with_reducible refine HG.out.mono ?_))
  rintro e' w1 hpost
  obtain ⟨pb, rfl, ⟨mb, mc, DC, lv, hq, _, _, _⟩, hb1⟩ := hpost
  dsimp only
  rw [HP.out] at hq
  obtain ⟨c2, c3, c5, c6, f2, f5, f6⟩ := seven_cells hq.blk
  obtain ⟨W2, hW2⟩ : ∃ W2, w1.setCell ⟨pb, 6, none⟩ (.string sep) = W2 := ⟨_, rfl⟩
  have HQ2 : Hid (PGr w.heap.size pb mb mc P DC lv true sep W2) := Lib.hid (hW2 ▸ hq.setSep)
  have HB2 : Hid (Below w.heap.size w W2) := Lib.hid (hW2 ▸ hb1.setCell hq.lo.1 _)
  clear hq hb1
  have hws : w1.heap.size = W2.heap.size := by rw [← hW2]; simp
  clear c2 c3 c5 f2 f5
  have hb3 : Below W2.heap.size W2 (W2.alloc (.cells #[.pointer none, .slice none 0 0] 90)) := (Below.refl _ W2).alloc (Nat.le_refl _) _
  have HIB := Lib.hid (fresh_isB W2)
  have HB3 : Hid (Below w.heap.size w _) := Lib.hid (HB2.out.trans (hb3.mono HB2.out.size))
  have HWC := Lib.hid (wcA_any nt w.heap.size pb mb mc P DC lv sep S _ HE.out W2.heap.size _ (fun y hy => HQ2.out.below (hb3.trans hy)) HIB.out (fun y hy => HT.out.below (HB3.out.trans (hy.mono HB2.out.size))) hlP hS hsep HKK.out HC.out)
  rw [HZ.out, HPF.out] at HWC
  clear hb3
  go_wp2_with (go_at_call 46; (try rw [hW2]); (try rw [hws]); (with_reducible refine HWC.out.mono ?_))
  clear hW2 hws c6 f6
  rintro e' w4 ⟨N, rfl, hN, hw4⟩
  subst hN
  dsimp only
  have HW4 := Lib.hid hw4
  have HB4 := Lib.hid (HB3.out.trans (hw4.bel.mono HB2.out.size))
  clear hw4
  go_wp2_with (go_at_call 47; (with_reducible refine (string_any _ _ _ HW4.out.is).mono ?_))
  rintro e' w5 ⟨rfl, _, hb5, _⟩
  dsimp only
  have HB5 := Lib.hid (HB4.out.trans (hb5.mono HB2.out.size))
  clear hb5
  go_wp2
  go_ret2
  exact ⟨rfl, HB5.out⟩
end Go.Proofs.YtgmhigjhooihdaaGreatDoor
