/- The parser's recover, as a deferred call. -/
import Derived.Test.YtackciefmdiphaaGreatDoorParMem
import Derived.Defers
import Derived.Recover
import Derived.Laws.Pointers
import Derived.Stop.Asserts
set_option linter.unusedVariables false
namespace Go.Proofs.YtackciefmdiphaaGreatDoor
open Go.RowKit Plain

theorem assert_err (v : Value) (xT : TypeId) (w : World) : (Instr.typeAssert (.iface 194 v) xT 67 false).run Tryz.prog w = .ok (.iface 194 v) w := by
  have h : (Tryz.prog.info? 194).map (fun i => (lacking #[("Error", 92)] i.methods).isEmpty) = some true := by kernel_rfl
  obtain ⟨i, hi, hl⟩ := Option.map_eq_some_iff.1 h
  simp [Instr.typeAssert, run_underlying Tryz.underlying67, typeInfo, hi, missingMethod_none (List.isEmpty_iff.1 hl)]
set_option maxRecDepth 100000 in
theorem rec_pan (p : Value) (a : Addr) (x v : Value) (older : List PanicEntry) (w : World) (hc : w.cell? a = some x) (hz : w.frozen? a = false) :
    CallsD Tryz.prog 94 #[p, .pointer (some a)] (.panicking ({ v := .iface 194 v, recovered := false } :: older)) w fun e u' w' =>
      e = .returned (.tuple #[]) ∧ u' = .panicking ({ v := .iface 194 v, recovered := true } :: older) ∧ w' = w.setCell a (.iface 194 v) := by
  have hta := assert_err v
  refine callsD_of_wpS Tryz.func94 rfl fun c₀ cs hu => ?_
  apply wpS_seq
  apply wpS_region
  simp [wpOpsS, go_sem, recoverD, hu, Tryz.ntmps94, Exit.thenS]
  apply wpS_seq
  apply wpS_region
  simp [wpOpsS, go_sem, Exit.thenS]
  refine wpS_cond (t := true) (by simp [Act.eval, Array.replicate]) ?_
  simp only [if_true]
  apply wpS_region
  simp [wpOpsS, go_sem, hc, hz, hta, bodyPostS, results, Tryz.results94]
set_option maxRecDepth 100000 in
theorem rec_idle (p : Value) (a : Addr) (w : World) :
    CallsD Tryz.prog 94 #[p, .pointer (some a)] .returning w fun e u' w' => e = .returned (.tuple #[]) ∧ u' = .returning ∧ w' = w := by
  refine callsD_of_wpS Tryz.func94 rfl fun c₀ cs hu => ?_
  apply wpS_seq
  apply wpS_region
  simp [wpOpsS, go_sem, recoverD, hu, Tryz.ntmps94, Exit.thenS]
  apply wpS_seq
  apply wpS_region
  simp [wpOpsS, go_sem, Exit.thenS]
  refine wpS_cond (t := false) (by simp [Act.eval, Array.replicate]) ?_
  simp only [Bool.false_eq_true, if_false]
  refine wpS_of_wp (wp_skip ?_)
  cases c₀
  simp_all [bodyPostS, results, Tryz.results94]
end Go.Proofs.YtackciefmdiphaaGreatDoor
