/- What expanding tabs says, in plain lists of pieces. -/
import Derived.Test.YtdomnccokhhieaaDoorRWidth
import Derived.Test.YtdomnccokhhieaaDoorPlain
namespace Go.Proofs.YtdomnccokhhieaaDoor
open Go.RowKit Plain

/-- the pieces with the tabs expanded: 'col': the column -/
def expP (size : Nat) : List (List UInt8) → Nat → List (List UInt8)
  | [], _ => []
  | c :: cs, col => if runeOf c = 9 then List.replicate (size - col % size) [32] ++ expP size cs (col + (size - col % size)) else if runeOf c = 10 then c :: expP size cs 0 else c :: expP size cs (col + (rwid (runeOf c)).toNat)
def expB (size : Nat) (cs : List (List UInt8)) (col : Nat) : List UInt8 := (expP size cs col).flatten
theorem expP_tab (size : Nat) (c : List UInt8) (cs : List (List UInt8)) (col : Nat) (h : runeOf c = 9) : expP size (c :: cs) col = List.replicate (size - col % size) [32] ++ expP size cs (col + (size - col % size)) := by rw [expP, if_pos h]
theorem expP_nl (size : Nat) (c : List UInt8) (cs : List (List UInt8)) (col : Nat) (h : runeOf c = 10) : expP size (c :: cs) col = c :: expP size cs 0 := by rw [expP, if_neg (by omega), if_pos h]
theorem expP_else (size : Nat) (c : List UInt8) (cs : List (List UInt8)) (col : Nat) (h : ¬ runeOf c = 9) (h2 : ¬ runeOf c = 10) : expP size (c :: cs) col = c :: expP size cs (col + (rwid (runeOf c)).toNat) := by rw [expP, if_neg h, if_neg h2]
/-- line by line -/
theorem expP_lines (size : Nat) (nl : List UInt8) (h : runeOf nl = 10) (b : List (List UInt8)) : ∀ (a : List (List UInt8)) (col : Nat), expP size (a ++ nl :: b) col = expP size a col ++ nl :: expP size b 0
  | [], col => by rw [List.nil_append, expP_nl _ _ _ _ h]; rfl
  | c :: a, col => by
    rw [List.cons_append]
    by_cases h1 : runeOf c = 9
    · rw [expP_tab _ _ _ _ h1, expP_tab _ _ _ _ h1, expP_lines size nl h b a, List.append_assoc]
    · by_cases h2 : runeOf c = 10
      · rw [expP_nl _ _ _ _ h2, expP_nl _ _ _ _ h2, expP_lines size nl h b a]; rfl
      · rw [expP_else _ _ _ _ h1 h2, expP_else _ _ _ _ h1 h2, expP_lines size nl h b a]; rfl
theorem blank_good : Plain.Good [32] ∧ ¬ runeOf [32] = 9 := by unfold Plain.Good; decide +kernel
theorem expP_good (size : Nat) : ∀ (cs : List (List UInt8)) (col : Nat), (∀ c ∈ cs, Plain.Good c) → ∀ c ∈ expP size cs col, Plain.Good c ∧ ¬ runeOf c = 9
  | [], _, _, c, hc => by simp [expP] at hc
  | x :: cs, col, h, c, hc => by
    have hcs := fun d hd => h d (List.mem_cons_of_mem _ hd)
    by_cases h1 : runeOf x = 9
    · rw [expP_tab _ _ _ _ h1] at hc
      rcases List.mem_append.1 hc with hc | hc
      · rw [(List.mem_replicate.1 hc).2]; exact blank_good
      · exact expP_good size cs _ hcs c hc
    · by_cases h2 : runeOf x = 10
      · rw [expP_nl _ _ _ _ h2] at hc
        rcases List.mem_cons.1 hc with rfl | hc
        · exact ⟨h _ (List.mem_cons_self ..), h1⟩
        · exact expP_good size cs _ hcs c hc
      · rw [expP_else _ _ _ _ h1 h2] at hc
        rcases List.mem_cons.1 hc with rfl | hc
        · exact ⟨h _ (List.mem_cons_self ..), h1⟩
        · exact expP_good size cs _ hcs c hc
theorem expP_same (size : Nat) : ∀ (cs : List (List UInt8)) (col : Nat), (∀ c ∈ cs, ¬ runeOf c = 9) → expP size cs col = cs
  | [], _, _ => rfl
  | x :: cs, col, h => by
    have h1 := h x (List.mem_cons_self ..)
    have hcs := fun d hd => h d (List.mem_cons_of_mem _ hd)
    by_cases h2 : runeOf x = 10
    · rw [expP_nl _ _ _ _ h2, expP_same size cs _ hcs]
    · rw [expP_else _ _ _ _ h1 h2, expP_same size cs _ hcs]
end Go.Proofs.YtdomnccokhhieaaDoor
