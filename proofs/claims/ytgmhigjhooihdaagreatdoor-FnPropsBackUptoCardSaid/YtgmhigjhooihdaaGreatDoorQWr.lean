/- The walk of io.WriteString, into a strings.Builder. -/
import Derived.Test.YtgmhigjhooihdaaGreatDoorBuildW
import Derived.Stop.Asserts
import Derived.Handy
set_option linter.unusedVariables false
namespace Go.Proofs.YtgmhigjhooihdaaGreatDoor
open Go.RowKit Plain

theorem wr_has (v : Value) (xT : TypeId) (w : World) : (Instr.typeAssert (.iface 88 v) xT 154 true).run Tryz.prog w = .ok (.tuple #[.iface 88 v, .bool true]) w := run_typeAssert_hasB Tryz.underlying154 (by kernel_rfl) v xT w
set_option maxHeartbeats 4000000 in
set_option maxRecDepth 100000 in
theorem ioWr_any (b : Nat) (l : List UInt8) (s : ByteArray) (w : World) (h : IsB b l w) (hlen : l.length + s.size ≤ 140737488355328) :
    Calls Tryz.prog 72 #[.iface 88 (.pointer (some ⟨b, 0, none⟩)), .string s] w fun e w' => e = .returned (.tuple #[.int .i64 s.size, .nilIface]) ∧ IsB b (l ++ s.data.toList) w' ∧ Below b w w' ∧ Lib.OthersKept 5 (some b) w w' := by
  have HW := Lib.hid (writeString_any b l s w h hlen)
  have HA := wr_has
  clear h
  go_enter Tryz.func72, Tryz.ntmps72
  go_wp2_with (go_at_call 208; with_reducible refine HW.out.mono ?_)
  rintro e w1 ⟨rfl, hb, hbl, ho⟩
  dsimp only
  go_wp2
  refine bodyPost_ret (v := .tuple #[.int .i64 s.size, .nilIface]) (by simp [results, Tryz.results72, go_sem]; try rfl) (by rfl) ?_
  exact ⟨rfl, hb, hbl, ho⟩
end Go.Proofs.YtgmhigjhooihdaaGreatDoor
