/- Plain words on items (the seat .D has no impl.Items). -/
import Derived.Test.YtackciefmdiphaaDoorParse2
set_option linter.unusedVariables false
namespace Go.Proofs.YtackciefmdiphaaDoor
open Go.RowKit Plain Go.Maps

theorem row_slq {w : World} {B n sz : Nat} {e : TypeId} {v : Value} {xs : List Value} (h : w.ownsRow B e sz v n xs) (hn : 0 < n) : ∃ G cap, v = .slice (some ⟨G, 0, none⟩) n cap := by
  rcases h.2 with ⟨_, h0⟩ | ⟨g, cap, cur, hv, _⟩
  · omega
  · exact ⟨g, cap, hv⟩
/-- an item as the door tells it -/
def outX (x : LI) : LI := if x.kind = 0 then ⟨0, x.pos, emptyB⟩ else x
def outI (l : List LI) : List LI := l.map outX
end Go.Proofs.YtackciefmdiphaaDoor
