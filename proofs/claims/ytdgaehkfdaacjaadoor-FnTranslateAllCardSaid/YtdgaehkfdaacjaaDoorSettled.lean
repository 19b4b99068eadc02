/- The walks of laws.size, laws.few and spec.settled, over a row of texts of the call's own. -/
import Derived.Test.YtdgaehkfdaacjaaDoorDec
import Derived.WalkKit
import Derived.Deep.LoopGhost
set_option linter.unusedVariables false
namespace Go.Proofs.YtdgaehkfdaacjaaDoor
open Go.RowKit Plain

/-- block 'g' is a row of texts -/
def RowS (g : Nat) (l : List ByteArray) (w : World) : Prop := ∀ k x, l[k]? = some x → w.cell? ⟨g, k, none⟩ = some (.string x)
theorem RowS.keep {g : Nat} {l : List ByteArray} {w w' : World} (h : RowS g l w) (e : w'.heap[g]? = w.heap[g]?) : RowS g l w' := by
  intro k x hx
  have := h k x hx
  unfold World.cell? at this ⊢
  rwa [e]
theorem rowS_new (w : World) (l : List ByteArray) (t : TypeId) : RowS w.heap.size l (w.alloc (.cells (l.map Value.string).toArray t)) := by
  intro k x hx
  rw [World.cell?_alloc_new]
  simp [hx]
set_option maxHeartbeats 1000000 in
set_option maxRecDepth 100000 in
theorem settled_any (g n cap : Nat) (l : List ByteArray) (hn : l.length = n) (w : World) (hg : g < w.heap.size) (hr : RowS g l w) (hl : n ≤ 1000) (hs : ∀ x ∈ l, x.size ≤ 2147483647) (hT : Tabs w) (b : Bool) (hb : (l.all fun x => Lib.validD x.data.toList) = b) :
    Calls Tryd.prog 30 #[.slice (some ⟨g, 0, none⟩) n cap] w fun e w' => e = .returned (.bool b) ∧ Below w.heap.size w w' := by
  have HN := Lib.hid hn
  have HB := Lib.hid hb
  have HS := Lib.hid hs
  clear hn hb hs
  go_enter Tryd.func30, Tryd.ntmps30
  go_wp2
  go_loopg [7] n (fun c iv wr => ∃ i : Nat, iv = .int .i64 i ∧ i ≤ n ∧ c = n - i ∧ Below w.heap.size w wr ∧ Hid (((l.drop i).all fun x => Lib.validD x.data.toList) = b))
  case atStart => exact ⟨0, rfl, Nat.zero_le _, rfl, Below.refl _ _, Lib.hid (by simpa using HB.out)⟩
  case round =>
    obtain ⟨i, rfl, hi, rfl, hbw, HA⟩ := hrel
    have hTr := hT.below hbw
    by_cases hin : i < n
    · have hiz : (i : Int) < (n : Int) := by omega
      have hil : i < l.length := by rw [HN.out]; exact hin
      obtain ⟨x, hx⟩ : ∃ x, l[i]? = some x := ⟨_, List.getElem?_eq_getElem hil⟩
      obtain ⟨_, hx2⟩ := List.getElem?_eq_some_iff.1 hx
      have hcell := (hr.keep (hbw.block g hg)) i x hx
      have hxs := HS.out x (List.mem_of_getElem? hx)
      have HD := Lib.hid (show l.drop i = x :: l.drop (i + 1) by rw [List.drop_eq_getElem_cons hil, hx2])
      clear hx hx2 hil hr
      cases hv : Lib.validD x.data.toList with
      | true =>
        have HV := Lib.hid (Tryd.utf8_ValidString x wr (by omega) hTr)
        rw [hv] at HV
        have HVV := Lib.hid hv
        clear hv
        go_wp2_with (go_at_call 35; (with_reducible refine HV.out.mono ?_); rintro e w1 ⟨rfl, hb1⟩; dsimp only)
        go_roundg (n - (i + 1))
        case measure => omega
        case rel => exact ⟨i + 1, by go_num, by omega, rfl, bthen hbw hb1, Lib.hid (by have := HA.out; rw [HD.out, List.all_cons, HVV.out, Bool.true_and] at this; exact this)⟩
      | false =>
        have HV := Lib.hid (Tryd.utf8_ValidString x wr (by omega) hTr)
        rw [hv] at HV
        have hbf : b = false := by have := HA.out; rw [HD.out, List.all_cons, hv, Bool.false_and] at this; exact this.symm
        subst hbf
        clear hv
        go_wp2_with (go_at_call 35; (with_reducible refine HV.out.mono ?_); rintro e w1 ⟨rfl, hb1⟩; dsimp only)
        go_ret
        exact ⟨rfl, bthen hbw hb1⟩
    · have hiz : ¬ (i : Int) < (n : Int) := by omega
      have hbt : b = true := by
        have := HA.out
        rw [List.drop_eq_nil_of_le (by rw [HN.out]; omega)] at this
        exact this.symm
      subst hbt
      go_wp2
      go_ret
      exact ⟨rfl, hbw⟩
end Go.Proofs.YtdgaehkfdaacjaaDoor
