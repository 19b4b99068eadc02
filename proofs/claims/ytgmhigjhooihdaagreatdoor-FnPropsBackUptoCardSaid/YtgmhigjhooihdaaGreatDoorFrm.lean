/- A frame known by some of its slots alone: cheap cuts and loops where a function has many slots. -/
import Derived.Test.YtgmhigjhooihdaaGreatDoorProg
import Derived.WalkKit
import Derived.Deep.Cut
import Derived.Deep.LoopGhost
namespace Go.Proofs.YtgmhigjhooihdaaGreatDoor

/-- what a slot holds -/
def Sl (a : Act) (i : Nat) : Value := (a.tmps.toList[i]?).getD undef
def Fr (n : Nat) (a : Act) : Prop := a.tmps.size = n ∧ a.defers = []
theorem list_lit (l : List Value) : (List.range l.length).map (fun i => (l[i]?).getD undef) = l := by
  apply List.ext_getElem
  · simp
  · intro i h1 h2
    simp [List.getElem?_eq_getElem h2]
theorem frame_lit (n : Nat) (a : Act) (h : Fr n a) : ∃ f : Nat → Value, (∀ i, Sl a i = f i) ∧ a = ⟨((List.range n).map f).toArray, []⟩ := by
  obtain ⟨h1, h2⟩ := h
  refine ⟨Sl a, fun _ => rfl, ?_⟩
  have e := list_lit a.tmps.toList
  rw [Array.length_toList, h1] at e
  cases a with
  | mk t d =>
    subst h2
    congr 1
    apply Array.toList_inj.1
    exact e.symm
end Go.Proofs.YtgmhigjhooihdaaGreatDoor
