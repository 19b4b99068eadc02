/- The walk of laws.long. -/
import Derived.Test.YtpbehdlgmpmkaaaDoorDec
namespace Go.Proofs.YtpbehdlgmpmkaaaDoor
open Go.RowKit Plain
set_option maxRecDepth 100000 in
theorem long_yes (s : ByteArray) (w : World) (h : 4096 < s.size) :
    Calls Tryd.prog 30 #[.string s] w fun e w' => e = .returned (.bool true) ∧ w = w' := by
  have h1 : (4096 : Int) < (s.size : Int) := by omega
  go_enter Tryd.func30, Tryd.ntmps30
  go_wp2
  go_ret
  exact ⟨rfl, rfl⟩
set_option maxRecDepth 100000 in
theorem long_no (s : ByteArray) (w : World) (h : ¬ 4096 < s.size) :
    Calls Tryd.prog 30 #[.string s] w fun e w' => e = .returned (.bool false) ∧ w = w' := by
  have h1 : ¬ (4096 : Int) < (s.size : Int) := by omega
  go_enter Tryd.func30, Tryd.ntmps30
  go_wp2
  go_ret
  exact ⟨rfl, rfl⟩
end Go.Proofs.YtpbehdlgmpmkaaaDoor
