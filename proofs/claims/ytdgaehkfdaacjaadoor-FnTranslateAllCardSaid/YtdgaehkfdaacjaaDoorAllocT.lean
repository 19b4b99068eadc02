/- The walks of xstrings.allocBuffer, laws.has. -/
import Derived.Test.YtdgaehkfdaacjaaDoorBuild
import Derived.Test.YtdgaehkfdaacjaaDoorValid
import Derived.LoopTactic
namespace Go.Proofs.YtdgaehkfdaacjaaDoor
open Go.RowKit Plain

theorem byte_at (s : ByteArray) (i : Nat) (h : i < s.size) : s.data.toList[i]? = some (s[i]'h) := by
  rw [Array.getElem?_toList, Array.getElem?_eq_getElem (by exact h)]
  rfl

set_option maxHeartbeats 2000000 in
set_option maxRecDepth 100000 in
theorem allocBuffer_any (o c : ByteArray) (w : World) (hc : c.size ≤ o.size) (ho : o.size ≤ 2147483647) :
    Calls Tryd.prog 45 #[.string o, .string c] w fun e w' => e = .returned (.pointer (some ⟨w.heap.size, 0, none⟩)) ∧ IsB w.heap.size (o.data.toList.take (o.size - c.size)) w' ∧ Below w.heap.size w w' := by
  obtain ⟨d, hd⟩ : ∃ d, o.size - c.size = d := ⟨_, rfl⟩
  have hsub : (o.size : Int) - (c.size : Int) = (d : Int) := by omega
  have hdo : d ≤ o.size := by omega
  obtain ⟨q, hq⟩ : ∃ q, o.size * 4 = q := ⟨_, rfl⟩
  have hmul : (o.size : Int) * 4 = (q : Int) := by omega
  have hqb : q ≤ 8589934588 := by omega
  have hx : (o.extract 0 d).data.toList = o.data.toList.take d := by rw [Lib.extract_data]; simp
  have HX := Lib.hid hx
  have hxs : (o.extract 0 d).size ≤ 2147483647 := by simp; omega
  rw [hd]
  clear hd hq hx
  have hB0 : Below w.heap.size w (w.alloc (.cells #[.pointer none, .slice none 0 0] 92)) := (Below.refl _ w).alloc (Nat.le_refl _) _
  by_cases hbig : 2048 < q
  · have hbz : (2048 : Int) < (q : Int) := by omega
    have hG := grow_any w.heap.size 2048 (w.alloc (.cells #[.pointer none, .slice none 0 0] 92)) (fresh_any w) (by omega)
    rw [show ((2048 : Nat) : Int) = 2048 from rfl] at hG
    have HG := Lib.hid hG
    clear hG
    go_enter Tryd.func45, Tryd.ntmps45
    go_wp2_with (go_at_call 52; (with_reducible refine HG.out.mono ?_); rintro e w1 ⟨rfl, hk1, hb1⟩; dsimp only)
    have hl : ([] : List UInt8).length + (o.extract 0 d).size ≤ 140737488355328 := by simp only [List.length_nil]; omega
    go_wp2_with (go_at_call 46; (with_reducible refine (writeString_any _ _ _ _ hk1 hl).mono ?_); rintro e w2 ⟨rfl, hk2, hb2, -⟩; dsimp only)
    go_wp2
    go_ret
    rw [HX.out, List.nil_append] at hk2
    exact ⟨rfl, hk2, hB0.trans (hb1.trans hb2)⟩
  · have hbz : ¬ (2048 : Int) < (q : Int) := by omega
    have HG := Lib.hid (grow_any w.heap.size q (w.alloc (.cells #[.pointer none, .slice none 0 0] 92)) (fresh_any w) (by omega))
    go_enter Tryd.func45, Tryd.ntmps45
    go_wp2_with (go_at_call 52; (with_reducible refine HG.out.mono ?_); rintro e w1 ⟨rfl, hk1, hb1⟩; dsimp only)
    have hl : ([] : List UInt8).length + (o.extract 0 d).size ≤ 140737488355328 := by simp only [List.length_nil]; omega
    go_wp2_with (go_at_call 46; (with_reducible refine (writeString_any _ _ _ _ hk1 hl).mono ?_); rintro e w2 ⟨rfl, hk2, hb2, -⟩; dsimp only)
    go_wp2
    go_ret
    rw [HX.out, List.nil_append] at hk2
    exact ⟨rfl, hk2, hB0.trans (hb1.trans hb2)⟩

set_option maxHeartbeats 1000000 in
set_option maxRecDepth 100000 in
/-- a byte does not stand in a text -/
theorem has_no (s : ByteArray) (c : UInt8) (w : World) (hs : s.size ≤ 140737488355328) (hc : c ∉ s.data.toList) :
    Calls Tryd.prog 21 #[.string s, .int .u8 (c.toNat : Int)] w fun e w' => e = .returned (.bool false) ∧ w' = w := by
  have HC := Lib.hid hc
  clear hc
  go_enter Tryd.func21, Tryd.ntmps21
  go_wp2
  go_loopw [5] (fun iv wr => ∃ (i : Nat), iv = .int .i64 i ∧ i ≤ s.size ∧ wr = w) (fun iv _ => match iv with | .int _ i => s.size - i.toNat | _ => 0)
  case atStart => exact ⟨0, rfl, Nat.zero_le _, rfl⟩
  case round =>
    obtain ⟨i, rfl, his, rfl⟩ := hrel
    by_cases hlt : i < s.size
    · have hz : (i : Int) < (s.size : Int) := by omega
      have hne : (((s[i]'hlt).toNat : Int) == (c.toNat : Int)) = false := by
        rw [beq_eq_false_iff_ne]
        intro h
        apply HC.out
        have h1 : (s[i]'hlt).toNat = c.toNat := by omega
        have h2 : s[i]'hlt = c := UInt8.toNat_inj.1 h1
        rw [← h2]
        exact List.mem_of_getElem? (byte_at s i hlt)
      go_wp2
      go_roundw
      case rel => exact ⟨i + 1, by go_num, by omega, trivial⟩
      case measure => show s.size - ((i : Int) + 1).toNat < s.size - (i : Int).toNat; omega
    · have hz : ¬ (i : Int) < (s.size : Int) := by omega
      go_wp2
      go_ret
      exact ⟨rfl, rfl⟩
end Go.Proofs.YtdgaehkfdaacjaaDoor
