/- Out of the row's condition: the table of letters. -/
import Derived.Test.YtdomnccokhhieaaDoorLaidU
import Derived.Test.YtdomnccokhhieaaDoorAlpha
import Derived.Lib.LaidRTab
import Derived.PinnedBridge
namespace Go.Proofs.YtdomnccokhhieaaDoor
open Go.RowKit Go.Shelf Go.Lib
theorem letter_laid : (Rows.laid_unicode_Letter : DataW Unit) = Lib.rtabData Lib.letterT := Pinned.letter_eq
theorem xR : RExtra Tryd.prog Tryd.lays261_ren := by constructor <;> kernel_rfl
theorem letter_of_laid {l : List (String × DataW Unit)} {W : World} (hL : laidMet Tryd.prog l W) (h : ("unicode.Letter", (Rows.laid_unicode_Letter : DataW Unit)) ∈ l) : LTab W :=
  rvar_of_reads Tryd.lays261 xR (by kernel_rfl) (by kernel_rfl) (letter_laid ▸ Lib.laidMet.reads hL h)
end Go.Proofs.YtdomnccokhhieaaDoor
