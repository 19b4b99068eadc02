/- impl.Successor, and what it makes of a text of ASCII. -/
import Derived.Test.YtdomnccokhhieaaDoorSucc
namespace Go.Proofs.YtdomnccokhhieaaDoor
open Go.RowKit Plain
def succS (s : ByteArray) : ByteArray := textOf (succR (rnsOf s.data.toList))
set_option maxRecDepth 100000 in
theorem implSucc_any (s : ByteArray) (w : World) (hs : s.size ≤ 2147483647) :
    Calls Tryd.prog 10 #[.string s] w fun e w' => e = .returned (.string (succS s)) ∧ Below w.heap.size w w' := by
  have C := Lib.hid (succ_any s w hs)
  go_enter Tryd.func10, Tryd.ntmps10
  go_wp2_with (go_at_call 30; (with_reducible refine C.out.mono ?_); rintro e w1 ⟨rfl, hb⟩; dsimp only)
  go_wp2
  go_ret
  exact ⟨rfl, hb⟩
theorem rns_ascii : ∀ (l : List UInt8), (∀ b ∈ l, b.toNat < 128) → rnsOf l = l.map (·.toNat)
  | [], _ => rfl
  | b :: l, h => by
    unfold rnsOf
    rw [segs_ascii b l (h b (by simp)), List.map_cons, runeOf_ascii b (h b (by simp))]
    have := rns_ascii l (fun c hc => h c (by simp [hc]))
    unfold rnsOf at this
    rw [this]
    rfl
theorem enc_ascii (b : UInt8) (h : b.toNat < 128) : Lib.encodeRune (b.toNat : Int) = [b] := by
  unfold Lib.encodeRune
  rw [Lib.encodeRuneZ_one (by omega) (by omega)]
  simp
theorem text_ascii : ∀ (l : List UInt8), (∀ b ∈ l, b.toNat < 128) → encs (l.map (·.toNat)) = l
  | [], _ => rfl
  | b :: l, h => by
    have e : encs ((b :: l).map (·.toNat)) = Lib.encodeRune (b.toNat : Int) ++ encs (l.map (·.toNat)) := by simp [encs]
    rw [e, enc_ascii b (h b (by simp)), text_ascii l (fun c hc => h c (by simp [hc]))]
    rfl
theorem text_of_nat (l : List UInt8) (m : List Nat) (h : ∀ b ∈ l, b.toNat < 128) (e : m = l.map (·.toNat)) : textOf m = ⟨l.toArray⟩ := by
  subst e
  show (⟨(encs (l.map (·.toNat))).toArray⟩ : ByteArray) = _
  rw [text_ascii l h]
end Go.Proofs.YtdomnccokhhieaaDoor
