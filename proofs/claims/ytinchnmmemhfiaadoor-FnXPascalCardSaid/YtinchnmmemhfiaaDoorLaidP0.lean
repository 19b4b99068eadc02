/- Out of the row's condition: the table of package unicode's. -/
import Derived.Test.YtinchnmmemhfiaaDoorRows
import Derived.Test.YtinchnmmemhfiaaDoorPTab
import Derived.Lib.LaidTab
import Derived.PinnedBridge
import Derived.Lay
import Derived.Stop.Joined
namespace Go.Proofs.YtinchnmmemhfiaaDoor
open Go.RowKit Go.Shelf Go.Lib
theorem props_eq : (Rows.laid_unicode_properties : DataW Unit) = Lib.tabData .u8 Lib.propertiesTab := by kernel_rfl
theorem ptab_of_laid {l : List (String × DataW Unit)} {W : World} (hL : laidMet Tryd.prog l W) (h : ("unicode.properties", (Rows.laid_unicode_properties : DataW Unit)) ∈ l) : PTab W := by
  have hr := Lib.laidMet.reads hL h
  rw [props_eq] at hr
  obtain ⟨g, t, cs, fuel, p, hg, hty, hvar, hd⟩ := hr
  have h1 : Tryd.prog.globalNamed "unicode.properties" = some 0 := by kernel_rfl
  have h2 : (Tryd.prog.globals[0]?).map (·.type) = some 41 := by kernel_rfl
  obtain rfl := Option.some.inj (h1.symm.trans hg)
  obtain rfl := Option.some.inj (h2.symm.trans hty)
  unfold PTab Lib.TabIs
  rw [hvar, ← cells_of_tab Tryd.underlying41 Tryd.underlying5 (by kernel_rfl) (by kernel_rfl) hd]
end Go.Proofs.YtinchnmmemhfiaaDoor
