/- The tables of package unicode's. -/
import Derived.Test.YtinchnmmemhfiaaDoorDec
import Derived.Lib.SmallJoins
import Derived.Shelf.Unicode.PredsPay
namespace Go.Proofs.YtinchnmmemhfiaaDoor
open Go.RowKit Plain

/-- the table of package unicode's -/
def PTab (w : World) : Prop := Lib.TabIs Tryd.prog w "unicode.properties" .u8 Lib.propertiesTab
theorem PTab.below {w w' : World} (h : PTab w) (hb : Below w.heap.size w w') : PTab w' := Joins.tab_stays (g := 0) (by kernel_rfl) h hb (Nat.le_refl _)

end Go.Proofs.YtinchnmmemhfiaaDoor
