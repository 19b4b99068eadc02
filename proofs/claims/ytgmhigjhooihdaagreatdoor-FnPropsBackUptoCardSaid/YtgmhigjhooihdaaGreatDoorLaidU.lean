/- Out of the row's condition (what the listed variables read as): the decoder's two tables. -/
import Derived.Test.YtgmhigjhooihdaaGreatDoorRows
import Derived.Test.YtgmhigjhooihdaaGreatDoorDec
import Derived.PinnedBridge
import Derived.Lib.LaidU8T
import Derived.Lay
import Derived.Stop.Joined
namespace Go.Proofs.YtgmhigjhooihdaaGreatDoor
open Go.RowKit Go.Shelf Go.Lib
theorem xU8 : U8Extra Tryz.prog Tryz.lays196_ren := ⟨by kernel_rfl, by kernel_rfl, by kernel_rfl, by kernel_rfl, by kernel_rfl, by kernel_rfl, by kernel_rfl⟩
theorem accept_eq : (Rows.laid_unicode_utf8_acceptRanges : DataW Unit) = acceptData := by kernel_rfl
theorem tabs_of_laid {l : List (String × DataW Unit)} {W : World} (hL : laidMet Tryz.prog l W) (h1 : ("unicode/utf8.first", Rows.laid_unicode_utf8_first) ∈ l) (h2 : ("unicode/utf8.acceptRanges", (Rows.laid_unicode_utf8_acceptRanges : DataW Unit)) ∈ l) : Tabs W :=
  utf8Tabs_of_readsT (.of196 Tryz.lays196) xU8 (Pinned.utf8First_eq ▸ Lib.laidMet.reads hL h1) (accept_eq ▸ Lib.laidMet.reads hL h2)
end Go.Proofs.YtgmhigjhooihdaaGreatDoor
