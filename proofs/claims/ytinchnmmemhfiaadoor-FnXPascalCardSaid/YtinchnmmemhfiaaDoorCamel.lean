/- The walk of xstrings' camel case on letters, digits and separators of ASCII. -/
import Derived.Test.YtinchnmmemhfiaaDoorCamelLaw
import Derived.Test.YtinchnmmemhfiaaDoorBuildR
import Derived.Test.YtinchnmmemhfiaaDoorPTab
import Derived.Lib.Props
import Derived.Lib.Latin
import Derived.Deep.QuietTactic
import Derived.BigQuiet
import Derived.Deep.LoopGhost
import Derived.LoopN
set_option linter.unusedVariables false
namespace Go.Proofs.YtinchnmmemhfiaaDoor
open Go.RowKit Plain

theorem dom_asc (b : UInt8) (h : domB b = true) : b.toNat < 128 := by
  have := byte_all (p := fun b => !(domB b) || decide (b.toNat < 128)) (by decide +kernel) b
  rw [h] at this
  simpa using this
theorem dom_up (b : UInt8) (h : domB b = true) : domB (upB b) = true ∧ domB (dnB b) = true := by
  have := byte_all (p := fun b => !(domB b) || (domB (upB b) && domB (dnB b))) (by decide +kernel) b
  rw [h] at this
  simpa using this
theorem isUp_any (c : UInt8) (w : World) (hc : c.toNat < 128) (h : PTab w) :
    Calls Tryd.prog 17 #[.int .i32 (c.toNat : Int)] w fun e w' => e = .returned (.bool (capB c)) ∧ w' = w := by
  refine (Tryd.unicode_IsUpper c.toNat w (by omega) h).mono fun e w' ⟨he, hw⟩ => ⟨?_, hw⟩
  rw [he]
  refine ret_bool ?_
  unfold Lib.isUpperL capB
  rw [← Bool.decide_and, decide_eq_decide]
  omega
theorem toUp_any (c : UInt8) (w : World) (hc : c.toNat < 128) :
    Calls Tryd.prog 18 #[.int .i32 (c.toNat : Int)] w fun e w' => e = .returned (.int .i32 ((upB c).toNat : Int)) ∧ w' = w := by
  refine (Tryd.unicode_ToUpper (c.toNat : Int) w (by omega)).mono fun e w' ⟨he, hw⟩ => ⟨?_, hw⟩
  rw [he]
  refine ret_int ?_
  have := byte_all (p := fun c => decide (c.toNat < 128) == false || Lib.toUpperR (c.toNat : Int) == ((upB c).toNat : Int)) (by decide +kernel) c
  simpa [hc] using this
theorem toLow_any (c : UInt8) (w : World) (hc : c.toNat < 128) :
    Calls Tryd.prog 19 #[.int .i32 (c.toNat : Int)] w fun e w' => e = .returned (.int .i32 ((dnB c).toNat : Int)) ∧ w' = w := by
  refine (Tryd.unicode_ToLower (c.toNat : Int) w (by omega)).mono fun e w' ⟨he, hw⟩ => ⟨?_, hw⟩
  rw [he]
  refine ret_int ?_
  have := byte_all (p := fun c => decide (c.toNat < 128) == false || Lib.toLowerR (c.toNat : Int) == ((dnB c).toNat : Int)) (by decide +kernel) c
  simpa [hc] using this
theorem space_con (c : UInt8) (hd : domB c = true) (h1 : c.toNat ≠ 45) (h2 : c.toNat ≠ 95) : Lib.isSpaceL (c.toNat : Int) = conB c := by
  have := byte_all (p := fun c => !(domB c) || c.toNat == 45 || c.toNat == 95 || Lib.isSpaceL (c.toNat : Int) == conB c) (by decide +kernel) c
  simpa [hd, h1, h2] using this
set_option maxHeartbeats 1000000 in
theorem isCon_any (c : UInt8) (w : World) (hd : domB c = true) :
    Calls Tryd.prog 16 #[.int .i32 (c.toNat : Int)] w fun e w' => e = .returned (.bool (conB c)) ∧ w' = w := by
  by_cases h1 : c.toNat = 45
  · have e : conB c = true := by simp [conB, h1]
    rw [e, h1]
    go_enter Tryd.func16, Tryd.ntmps16
    go_wp2
    go_ret
    exact ⟨rfl, rfl⟩
  by_cases h2 : c.toNat = 95
  · have e : conB c = true := by simp [conB, h2]
    rw [e, h2]
    go_enter Tryd.func16, Tryd.ntmps16
    go_wp2
    go_ret
    exact ⟨rfl, rfl⟩
  have ha := dom_asc c hd
  have HS := Lib.hid (fun w => space_con c hd h1 h2 ▸ Tryd.unicode_IsSpace (c.toNat : Int) w (by omega) (by omega))
  have e1 : ((c.toNat : Int) == 45) = false := by rw [beq_eq_false_iff_ne]; omega
  have e2 : ((c.toNat : Int) == 95) = false := by rw [beq_eq_false_iff_ne]; omega
  clear h1 h2 hd
  generalize conB c = B at HS ⊢
  go_enter Tryd.func16, Tryd.ntmps16
  go_wp2_with (go_at_call 23; (with_reducible refine (HS.out _).mono ?_); rintro e w1 ⟨rfl, rfl⟩; dsimp only)
  go_wp2
  go_ret
  exact ⟨rfl, rfl⟩
theorem enc_byte (r : Int) (h0 : 0 ≤ r) (h1 : r ≤ 127) : Lib.encodeRune r = [r.toNat.toUInt8] := by
  unfold Lib.encodeRune
  rw [Lib.encodeRuneZ_one h0 h1]
  rfl
theorem write_one (b : Nat) (l : List UInt8) (y : UInt8) (w : World) (hy : y.toNat < 128) (h : IsB b l w) (hlen : l.length + 4 ≤ 140737488355328) :
    Calls Tryd.prog 20 #[.pointer (some ⟨b, 0, none⟩), .int .i32 (y.toNat : Int)] w fun e w' => e = .returned (.tuple #[.int .i64 (Lib.runeCells (y.toNat : Int)).length, .nilIface]) ∧ IsB b (l ++ [y]) w' ∧ Below b w w' := by
  refine (writeRune_any b l (y.toNat : Int) w (by omega) (by omega) h hlen).mono ?_
  rintro e w' ⟨rfl, hk, hb, -⟩
  rw [enc_byte _ (by omega) (by omega)] at hk
  exact ⟨rfl, by simpa using hk, hb⟩
theorem tail_of (t : ByteArray) (x : UInt8) (xs : List UInt8) (h : t.data.toList = x :: xs) : (t.extract 1 t.size).data.toList = xs ∧ (t.extract 1 t.size).size = t.size - 1 := by
  have := rest_of t 1
  rw [h] at this
  exact this
theorem dec_asc (t : ByteArray) (x : UInt8) (xs : List UInt8) (w : World) (h : t.data.toList = x :: xs) (hx : x.toNat < 128) :
    Calls Tryd.prog 15 #[.string t] w fun e w' => e = .returned (.tuple #[.int .i32 (x.toNat : Int), .int .i64 1]) ∧ w' = w :=
  Tryd.utf8_DecodeRuneInString_ascii t x w (by rw [h]; rfl) hx
end Go.Proofs.YtinchnmmemhfiaaDoor
