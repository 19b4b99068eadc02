/- Plain words on items' properties (the seat .D has no laws.itemProps). -/
import Derived.Test.YtackciefmdiphaaDoorItems
set_option linter.unusedVariables false
namespace Go.Proofs.YtackciefmdiphaaDoor
open Go.RowKit Plain Go.Maps

theorem infoPr : (Tryd.prog.info? 29).map (fun i => (i.zero, i.size, i.bytes)) = some (some (.agg #[.string ⟨#[]⟩, .string ⟨#[]⟩, .string ⟨#[]⟩, .slice none 0 0]), 4, 72) := by kernel_rfl
def propC (p : ByteArray × ByteArray) : List Value := [.string p.1, .string p.2, .string ⟨#[]⟩, .slice none 0 0]
def propsC (l : List (ByteArray × ByteArray)) : List Value := (l.map propC).flatten
/-- the text of an item that is a value and stands first -/
def valN : List LI → ByteArray
  | [] => ⟨#[]⟩
  | y :: _ => if y.kind = 3 then y.text else ⟨#[]⟩
/-- none: an error is among the items -/
def ipL : List LI → Option (List (ByteArray × ByteArray))
  | [] => some []
  | x :: r => if x.kind = 0 then none else if x.kind = 2 then (ipL r).map ((x.text, valN r) :: ·) else ipL r
theorem cell_four_new (w : World) (a b c d : Value) (t : TypeId) : ∀ j u, ([a, b, c, d] : List Value)[j]? = some u → (w.alloc (.cells #[a, b, c, d] t)).cell? ((⟨w.heap.size, 0, none⟩ : Addr).add j) = some u := by
  intro j u hu
  rw [add_at, Nat.zero_add, World.cell?_alloc_new]
  simpa using hu
theorem ipL_len : ∀ (l : List LI) (ps : List (ByteArray × ByteArray)), ipL l = some ps → ps.length ≤ l.length := by
  intro l
  induction l with
  | nil => intro ps h; injection h with h; subst h; exact Nat.le_refl _
  | cons x r ih =>
    intro ps h
    unfold ipL at h
    split at h
    · cases h
    · split at h
      · obtain ⟨q, hq, rfl⟩ := Option.map_eq_some_iff.1 h
        have := ih q hq
        simp
        omega
      · have := ih ps h
        simp
        omega
end Go.Proofs.YtackciefmdiphaaDoor
