/- The walk of io.WriteString, into a strings.Builder. -/
import Derived.Test.YtcbfoieamcckoaaDoorBuildW
import Derived.Stop.Asserts
import Derived.Handy
set_option linter.unusedVariables false
namespace Go.Proofs.YtcbfoieamcckoaaDoor
open Go.RowKit Plain

theorem wr_has (v : Value) (xT : TypeId) (w : World) : (Instr.typeAssert (.iface 40 v) xT 71 true).run Tryd.prog w = .ok (.tuple #[.iface 40 v, .bool true]) w := run_typeAssert_hasB Tryd.underlying71 (by kernel_rfl) v xT w
set_option maxHeartbeats 4000000 in
set_option maxRecDepth 100000 in
theorem ioWr_any (b : Nat) (l : List UInt8) (s : ByteArray) (w : World) (h : IsB b l w) (hlen : l.length + s.size ≤ 140737488355328) :
    Calls Tryd.prog 22 #[.iface 40 (.pointer (some ⟨b, 0, none⟩)), .string s] w fun e w' => e = .returned (.tuple #[.int .i64 s.size, .nilIface]) ∧ IsB b (l ++ s.data.toList) w' ∧ Below b w w' ∧ Lib.OthersKept 5 (some b) w w' := by
  have HW := Lib.hid (writeString_any b l s w h hlen)
  have HA := wr_has
  clear h
  go_enter Tryd.func22, Tryd.ntmps22
  go_wp2_with (go_at_call 65; with_reducible refine HW.out.mono ?_)
  rintro e w1 ⟨rfl, hb, hbl, ho⟩
  dsimp only
  go_wp2
  refine bodyPost_ret (v := .tuple #[.int .i64 s.size, .nilIface]) (by simp [results, Tryd.results22, go_sem]; try rfl) (by rfl) ?_
  exact ⟨rfl, hb, hbl, ho⟩
end Go.Proofs.YtcbfoieamcckoaaDoor
