/- Out of the row's condition: the errors of package strconv's. -/
import Derived.Test.YtmmgjajclhhacaaDoorRows
import Derived.Test.YtmmgjajclhhacaaDoorTVal
import Derived.LaidLaws
import Derived.Lib.LaidU8
import Derived.Lay
import Derived.Stop.Joined
namespace Go.Proofs.YtmmgjajclhhacaaDoor
open Go.RowKit Go.Shelf Go.Lib
theorem errTab_of_laid {l : List (String × DataW Unit)} {W : World} (hL : laidMet Tryd.prog l W) (h : ("strconv.ErrSyntax", (Rows.laid_strconv_ErrSyntax : DataW Unit)) ∈ l) (h' : ("strconv.ErrRange", (Rows.laid_strconv_ErrRange : DataW Unit)) ∈ l) : ErrTab W := by
  constructor
  · have hr := Lib.laidMet.reads hL h
    obtain ⟨g, t, cs, fuel, p, hg, hty, hvar, hd⟩ := hr
    have h1 : Tryd.prog.globalNamed "strconv.ErrSyntax" = some 0 := by kernel_rfl
    have h2 : (Tryd.prog.globals[0]?).map (·.type) = some 53 := by kernel_rfl
    obtain rfl := Option.some.inj (h1.symm.trans hg)
    obtain rfl := Option.some.inj (h2.symm.trans hty)
    obtain ⟨f', u, v, hcs, _, _⟩ := iface_of_trod Tryd.underlying53 hd
    refine ⟨u, v, ?_⟩
    have := World.var?_cell hg hvar 0
    rw [this]
    rw [← Array.getElem?_toList, hcs]
    rfl
  · have hr := Lib.laidMet.reads hL h'
    obtain ⟨g, t, cs, fuel, p, hg, hty, hvar, hd⟩ := hr
    have h1 : Tryd.prog.globalNamed "strconv.ErrRange" = some 1 := by kernel_rfl
    have h2 : (Tryd.prog.globals[1]?).map (·.type) = some 53 := by kernel_rfl
    obtain rfl := Option.some.inj (h1.symm.trans hg)
    obtain rfl := Option.some.inj (h2.symm.trans hty)
    obtain ⟨f', u, v, hcs, _, _⟩ := iface_of_trod Tryd.underlying53 hd
    refine ⟨u, v, ?_⟩
    have := World.var?_cell hg hvar 0
    rw [this]
    rw [← Array.getElem?_toList, hcs]
    rfl
end Go.Proofs.YtmmgjajclhhacaaDoor
