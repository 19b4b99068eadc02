/- An answer that tells a property if it is true. -/
import Derived.Test.YtgmhigjhooihdaaGreatDoorDec
namespace Go.Proofs.YtgmhigjhooihdaaGreatDoor
open Go.RowKit

def BoolP (P : Prop) (e : Ending) : Prop := ∃ b : Bool, e = .returned (.bool b) ∧ (b = true → P)
theorem boolP_no (P : Prop) : BoolP P (.returned (.bool false)) := ⟨false, rfl, fun h => by cases h⟩
theorem boolP_yes {P : Prop} (h : P) : BoolP P (.returned (.bool true)) := ⟨true, rfl, fun _ => h⟩
def BoolN (P : Prop) (e : Ending) : Prop := ∃ b : Bool, e = .returned (.bool b) ∧ (b = false → P)
/-- .. and the world stays -/
def SameW (Q : Prop) (w w' : World) : Prop := Q ∧ w' = w
end Go.Proofs.YtgmhigjhooihdaaGreatDoor
