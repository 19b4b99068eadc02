/- Out of the row's condition (what the listed variables read as): the decoder's two tables and the table of blanks. -/
import Derived.Test.YtgmhigjhooihdaaGreatDoorLaidU
import Derived.Test.YtgmhigjhooihdaaGreatDoorWEnc
namespace Go.Proofs.YtgmhigjhooihdaaGreatDoor
open Go.RowKit Go.Shelf Go.Lib
theorem xWh : WhiteExtra Tryz.prog Tryz.lays199_ren := ⟨by kernel_rfl, by kernel_rfl, by kernel_rfl, by kernel_rfl, by kernel_rfl, by kernel_rfl, by kernel_rfl, by kernel_rfl⟩
theorem white_eq : (Rows.laid_unicode_White_Space : DataW Unit) = whiteData := by kernel_rfl
theorem wtab_of_laid {l : List (String × DataW Unit)} {W : World} (hL : laidMet Tryz.prog l W) (h1 : ("unicode/utf8.first", Rows.laid_unicode_utf8_first) ∈ l) (h2 : ("unicode/utf8.acceptRanges", (Rows.laid_unicode_utf8_acceptRanges : DataW Unit)) ∈ l) (h4 : ("unicode.White_Space", (Rows.laid_unicode_White_Space : DataW Unit)) ∈ l) : WTab W :=
  ⟨tabs_of_laid hL h1 h2, whiteTab_of_reads Tryz.lays199 xWh (white_eq ▸ Lib.laidMet.reads hL h4)⟩
end Go.Proofs.YtgmhigjhooihdaaGreatDoor
