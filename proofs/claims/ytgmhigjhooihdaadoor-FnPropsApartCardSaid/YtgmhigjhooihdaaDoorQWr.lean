/- The walk of io.WriteString, into a strings.Builder. -/
import Derived.Test.YtgmhigjhooihdaaDoorBuildW
import Derived.Stop.Asserts
import Derived.Handy
set_option linter.unusedVariables false
namespace Go.Proofs.YtgmhigjhooihdaaDoor
open Go.RowKit Plain

theorem wr_has (v : Value) (xT : TypeId) (w : World) : (Instr.typeAssert (.iface 38 v) xT 67 true).run Tryd.prog w = .ok (.tuple #[.iface 38 v, .bool true]) w := run_typeAssert_hasB Tryd.underlying67 (by kernel_rfl) v xT w
set_option maxHeartbeats 4000000 in
set_option maxRecDepth 100000 in
theorem ioWr_any (b : Nat) (l : List UInt8) (s : ByteArray) (w : World) (h : IsB b l w) (hlen : l.length + s.size ≤ 140737488355328) :
    Calls Tryd.prog 18 #[.iface 38 (.pointer (some ⟨b, 0, none⟩)), .string s] w fun e w' => e = .returned (.tuple #[.int .i64 s.size, .nilIface]) ∧ IsB b (l ++ s.data.toList) w' ∧ Below b w w' ∧ Lib.OthersKept 5 (some b) w w' := by
  have HW := Lib.hid (writeString_any b l s w h hlen)
  have HA := wr_has
  clear h
  go_enter Tryd.func18, Tryd.ntmps18
  go_wp2_with (go_at_call 60; with_reducible refine HW.out.mono ?_)
  rintro e w1 ⟨rfl, hb, hbl, ho⟩
  dsimp only
  go_wp2
  refine bodyPost_ret (v := .tuple #[.int .i64 s.size, .nilIface]) (by simp [results, Tryd.results18, go_sem]; try rfl) (by rfl) ?_
  exact ⟨rfl, hb, hbl, ho⟩
end Go.Proofs.YtgmhigjhooihdaaDoor

