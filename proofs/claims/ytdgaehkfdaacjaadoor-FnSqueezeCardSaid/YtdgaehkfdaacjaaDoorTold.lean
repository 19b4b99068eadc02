/- The walk of laws.told. -/
import Derived.Test.YtdgaehkfdaacjaaDoorTrImpl
set_option linter.unusedVariables false
namespace Go.Proofs.YtdgaehkfdaacjaaDoor
open Go.RowKit Plain

theorem told_open (g x : ByteArray) (n : Int) (hn : n ≠ 1) (w : World) :
    Calls Tryd.prog 15 #[.string g, .string x, .int .i64 n] w fun e w' => e = .returned (.bool true) ∧ w = w' := by
  have hz : (n != 1) = true := by rw [bne_iff_ne]; exact hn
  have hz2 : (n == 1) = false := by rw [beq_eq_false_iff_ne]; exact hn
  go_enter Tryd.func15, Tryd.ntmps15
  go_wp2
  go_ret
  exact ⟨rfl, rfl⟩
theorem told_same (x : ByteArray) (w : World) :
    Calls Tryd.prog 15 #[.string x, .string x, .int .i64 1] w fun e w' => e = .returned (.bool true) ∧ w = w' := by
  have hz : (x.toList == x.toList) = true := by simp
  go_enter Tryd.func15, Tryd.ntmps15
  go_wp2
  go_ret
  exact ⟨rfl, rfl⟩
end Go.Proofs.YtdgaehkfdaacjaaDoor
