/- The walk of impl.WriteProps, one pair, no prefix, UTF-8. -/
import Derived.Test.YtcbfoieamcckoaaDoorQCom
set_option linter.unusedVariables false
namespace Go.Proofs.YtcbfoieamcckoaaDoor
open Go.RowKit Plain Go.Maps

set_option maxHeartbeats 4000000 in
set_option maxRecDepth 100000 in
theorem wprops_any (g : Nat) (k v sep S : ByteArray) (w : World) (hg : w.heap[g]? = some (.cells #[.string k, .string v, .string ⟨#[]⟩, .slice none 0 0] 26 (0, 0))) (hk0 : ¬ k.size = 0) (hk : k.size ≤ 1000000) (hv : v.size ≤ 1000000) (hS : S.size ≤ 10) (hsep : sep.size ≤ 10)
    (hnk : NiceL k.data.toList) (hnv : NiceL v.data.toList) (hT : Tabs w) (hc : (sep = ⟨#[]⟩ ∧ S = ⟨#[32, 61, 32]⟩) ∨ (¬ sep.size = 0 ∧ S = sep)) :
    Calls Tryd.prog 5 #[.slice (some ⟨g, 0, none⟩) 1 1, .string ⟨#[]⟩, .string sep, .int .i64 1] w
      fun e w' => e = .returned (.tuple #[.string (lineOf k S v), .int .i64 (lineOf k S v).size]) ∧ Below w.heap.size w w' := by
  have HG := Lib.hid (given_any g k v w hg hk0 (by omega) (by omega))
  have HT := Lib.hid hT
  have HNK := Lib.hid hnk
  have HNV := Lib.hid hnv
  have HC := Lib.hid hc
  clear hg hT hnk hnv hc hk0
  obtain ⟨Z, hZ⟩ : ∃ Z, lineOf k S v = Z := ⟨_, rfl⟩
  rw [hZ]
  have HZ := Lib.hid hZ
  clear hZ
  go_enter Tryd.func5, Tryd.ntmps5
  go_wp2_with (go_at_call 10; (with_reducible refine HG.out.mono ?_))
  rintro e w1 hpost
  obtain ⟨pb, mb, mc, lv, rfl, hq, hb1⟩ := hpost
  dsimp only
  obtain ⟨c2, c3, c5, c6, f2, f5, f6⟩ := seven_cells hq.blk
  obtain ⟨W2, hW2⟩ : ∃ W2, w1.setCell ⟨pb, 6, none⟩ (.string sep) = W2 := ⟨_, rfl⟩
  have HQ2 : Hid (QS w.heap.size pb mb mc 1 (D1 k v) [.string k] lv true sep W2) := Lib.hid (hW2 ▸ qs_sep hq sep)
  have HB2 : Hid (Below w.heap.size w W2) := Lib.hid (hW2 ▸ hb1.setCell hq.lo.1 _)
  clear hq hb1
  have hws : w1.heap.size = W2.heap.size := by rw [← hW2]; simp
  clear c2 c3 c5 f2 f5
  have hb3 : Below W2.heap.size W2 (W2.alloc (.cells #[.pointer none, .slice none 0 0] 43)) := (Below.refl _ W2).alloc (Nat.le_refl _) _
  have HIB := Lib.hid (fresh_isB W2)
  have HB3 : Hid (Below w.heap.size w _) := Lib.hid (HB2.out.trans (hb3.mono HB2.out.size))
  have HTB := Lib.hid (fun w' (k : Below W2.heap.size (W2.alloc (.cells #[.pointer none, .slice none 0 0] 43)) w') => tabsB_of HT.out HB3.out w' (k.mono HB2.out.size) : TabsB W2.heap.size _)
  have HWC := Lib.hid (wc_any w.heap.size pb mb mc k v sep S lv W2.heap.size _ (qs_below HQ2.out hb3) HIB.out hk hv hS hsep HNK.out HNV.out HTB.out HC.out)
  clear hb3
  go_wp2_with (go_at_call 11; (try rw [hW2]); (try rw [hws]); (with_reducible refine HWC.out.mono ?_))
  clear hW2 hws c6 f6
  rintro e w4 ⟨N, rfl, hN, hi4, hb4⟩
  rw [HZ.out] at hN hi4
  subst hN
  dsimp only
  have HI4 := Lib.hid hi4
  have HB4 := Lib.hid (HB3.out.trans (hb4.mono HB2.out.size))
  clear hi4 hb4
  go_wp2_with (go_at_call 12; (with_reducible refine (string_any _ _ _ HI4.out).mono ?_))
  rintro e w5 ⟨rfl, _, hb5, _⟩
  dsimp only
  have HB5 := Lib.hid (HB4.out.trans (hb5.mono HB2.out.size))
  clear hb5
  go_wp2
  go_ret2
  exact ⟨by simp, HB5.out⟩
end Go.Proofs.YtcbfoieamcckoaaDoor
