/- Out of the row's condition (what the listed variables read as): the tables that strings.TrimSpace reads. -/
import Derived.Test.YtpbehdlgmpmkaaaDoorRows
import Derived.Test.YtpbehdlgmpmkaaaDoorDelim
import Derived.PinnedBridge
import Derived.Lib.LaidU8T
import Derived.Lib.LaidTab
import Derived.Lay
import Derived.Stop.Joined
namespace Go.Proofs.YtpbehdlgmpmkaaaDoor
open Go.RowKit Go.Shelf Go.Lib
theorem xU8 : U8Extra Tryd.prog Tryd.lays260_ren := ⟨by kernel_rfl, by kernel_rfl, by kernel_rfl, by kernel_rfl, by kernel_rfl, by kernel_rfl, by kernel_rfl⟩
theorem xWh : WhiteExtra Tryd.prog Tryd.lays199_ren := ⟨by kernel_rfl, by kernel_rfl, by kernel_rfl, by kernel_rfl, by kernel_rfl, by kernel_rfl, by kernel_rfl, by kernel_rfl⟩
theorem accept_eq : (Rows.laid_unicode_utf8_acceptRanges : DataW Unit) = acceptData := by kernel_rfl
theorem white_eq : (Rows.laid_unicode_White_Space : DataW Unit) = whiteData := by kernel_rfl
theorem ascii_eq : (Rows.laid_strings_asciiSpace : DataW Unit) = Lib.tabData .u8 Lib.asciiSpaceTab := by kernel_rfl
theorem stab_of_laid {l : List (String × DataW Unit)} {W : World} (hL : laidMet Tryd.prog l W) (h1 : ("unicode/utf8.first", Rows.laid_unicode_utf8_first) ∈ l) (h2 : ("unicode/utf8.acceptRanges", (Rows.laid_unicode_utf8_acceptRanges : DataW Unit)) ∈ l)
    (h3 : ("strings.asciiSpace", (Rows.laid_strings_asciiSpace : DataW Unit)) ∈ l) (h4 : ("unicode.White_Space", (Rows.laid_unicode_White_Space : DataW Unit)) ∈ l) : STab W := by
  refine ⟨utf8Tabs_of_readsT (.of260 Tryd.lays260) xU8 (Pinned.utf8First_eq ▸ Lib.laidMet.reads hL h1) (accept_eq ▸ Lib.laidMet.reads hL h2), ?_, whiteTab_of_reads Tryd.lays199 xWh (white_eq ▸ Lib.laidMet.reads hL h4)⟩
  have hr := Lib.laidMet.reads hL h3
  rw [ascii_eq] at hr
  obtain ⟨g, t, cs, fuel, p, hg, hty, hvar, hd⟩ := hr
  have h1 : Tryd.prog.globalNamed "strings.asciiSpace" = some 0 := by kernel_rfl
  have h2 : (Tryd.prog.globals[0]?).map (·.type) = some 51 := by kernel_rfl
  obtain rfl := Option.some.inj (h1.symm.trans hg)
  obtain rfl := Option.some.inj (h2.symm.trans hty)
  unfold Lib.TabIs
  rw [hvar, ← cells_of_tab Tryd.underlying51 Tryd.underlying5 (by kernel_rfl) (by kernel_rfl) hd]
end Go.Proofs.YtpbehdlgmpmkaaaDoor
