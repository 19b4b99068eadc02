/- escape at any small rune. -/
import Derived.Test.YtgmhigjhooihdaaGreatDoorLexMem
import Derived.Laws.Cover4
set_option linter.unusedVariables false
namespace Go.Proofs.YtgmhigjhooihdaaGreatDoor
open Go.RowKit Plain

def escF (q : ByteArray) (R : Nat) : ByteArray :=
  if R = 12 then ⟨#[92, 102]⟩ else if R = 10 then ⟨#[92, 110]⟩ else if R = 13 then ⟨#[92, 114]⟩ else if R = 9 then ⟨#[92, 116]⟩ else if R = 92 then ⟨#[92, 92]⟩
  else if 0 ≤ ziF q R 0 then ⟨#[92]⟩ ++ Utf8.encode (R : Int) else Utf8.encode (R : Int)
set_option maxHeartbeats 4000000 in
set_option maxRecDepth 100000 in
theorem escape_any (q : ByteArray) (R : Nat) (w : World) (h : SmallR R) (hq : q.size ≤ 100) :
    Calls Tryz.prog 104 #[.int .i32 (R : Int), .string q] w fun e w' => e = .returned (.string (escF q R)) ∧ Below w.heap.size w w' := by
  by_cases h1 : R = 12
  · subst h1
    go_enter Tryz.func104, Tryz.ntmps104
    go_wp2
    go_ret
    exact ⟨rfl, Below.refl _ _⟩
  by_cases h2 : R = 10
  · subst h2
    go_enter Tryz.func104, Tryz.ntmps104
    go_wp2
    go_ret
    exact ⟨rfl, Below.refl _ _⟩
  by_cases h3 : R = 13
  · subst h3
    go_enter Tryz.func104, Tryz.ntmps104
    go_wp2
    go_ret
    exact ⟨rfl, Below.refl _ _⟩
  by_cases h4 : R = 9
  · subst h4
    go_enter Tryz.func104, Tryz.ntmps104
    go_wp2
    go_ret
    exact ⟨rfl, Below.refl _ _⟩
  by_cases h5 : R = 92
  · subst h5
    go_enter Tryz.func104, Tryz.ntmps104
    go_wp2
    go_ret
    exact ⟨rfl, Below.refl _ _⟩
  have d1 : ((R : Int) == 12) = false := by rw [beq_eq_false_iff_ne]; omega
  have d2 : ((R : Int) == 10) = false := by rw [beq_eq_false_iff_ne]; omega
  have d3 : ((R : Int) == 13) = false := by rw [beq_eq_false_iff_ne]; omega
  have d4 : ((R : Int) == 9) = false := by rw [beq_eq_false_iff_ne]; omega
  have d5 : ((R : Int) == 92) = false := by rw [beq_eq_false_iff_ne]; omega
  have HZ := Lib.hid (zc_any q R w h hq _ rfl)
  have hes : (Utf8.encode (R : Int)).size ≤ 4 := encode_size_le _
  unfold escF
  rw [if_neg h1, if_neg h2, if_neg h3, if_neg h4, if_neg h5]
  by_cases hz : 0 ≤ ziF q R 0
  · rw [if_pos hz]
    rw [decide_eq_true hz] at HZ
    clear h1 h2 h3 h4 h5 h hz
    go_enter Tryz.func104, Tryz.ntmps104
    go_wp2_with (go_at_call 117; (with_reducible refine HZ.out.mono ?_); rintro e w1 ⟨rfl, hb1⟩; dsimp only)
    go_wp2
    go_ret
    exact ⟨rfl, hb1⟩
  · rw [if_neg hz]
    rw [decide_eq_false hz] at HZ
    clear h1 h2 h3 h4 h5 h hz
    go_enter Tryz.func104, Tryz.ntmps104
    go_wp2_with (go_at_call 117; (with_reducible refine HZ.out.mono ?_); rintro e w1 ⟨rfl, hb1⟩; dsimp only)
    go_ret
    exact ⟨rfl, hb1⟩
end Go.Proofs.YtgmhigjhooihdaaGreatDoor
