/- Out of the rows' condition: the error's variable, the tables of package unicode's. -/
import Derived.Test.YtcjfcjlendibpaaDoorRows
import Derived.Test.YtcjfcjlendibpaaDoorPEnv
import Derived.PinnedBridge
import Derived.LaidLaws
import Derived.Lib.LaidTab
import Derived.Lib.LaidRTab
import Derived.Lay
import Derived.Stop.Joined
namespace Go.Proofs.YtcjfcjlendibpaaDoor
open Go.RowKit Go.Shelf Go.Lib
theorem evar_of_laid {l : List (String × DataW Unit)} {W : World} (hL : laidMet Tryd.prog l W) (h : ("pub-pencraft/pub/shellwords.errInvalidCmdLine", (Rows.laid_pub_pencraft_pub_shellwords_errInvalidCmdLine : DataW Unit)) ∈ l) : EVar W := by
  have hr := Lib.laidMet.reads hL h
  obtain ⟨g, t, cs, fuel, p, hg, hty, hvar, hd⟩ := hr
  have h1 : Tryd.prog.globalNamed "pub-pencraft/pub/shellwords.errInvalidCmdLine" = some 0 := by kernel_rfl
  have h2 : (Tryd.prog.globals[0]?).map (·.type) = some 49 := by kernel_rfl
  obtain rfl := Option.some.inj (h1.symm.trans hg)
  obtain rfl := Option.some.inj (h2.symm.trans hty)
  obtain ⟨f', u, v, hcs, _, _⟩ := iface_of_trod Tryd.underlying49 hd
  refine ⟨u, v, ?_⟩
  have := World.var?_cell hg hvar 0
  rw [this]
  rw [← Array.getElem?_toList, hcs]
  rfl
theorem uprops_eq : (Rows.laid_unicode_properties : DataW Unit) = Lib.tabData .u8 Lib.propertiesTab := by kernel_rfl
theorem xRE : RExtra Tryd.prog Tryd.lays261_ren := by constructor <;> kernel_rfl
theorem utabs_of_laid {l : List (String × DataW Unit)} {W : World} (hL : laidMet Tryd.prog l W) (h1 : ("unicode.properties", (Rows.laid_unicode_properties : DataW Unit)) ∈ l) (h2 : ("unicode.Letter", (Rows.laid_unicode_Letter : DataW Unit)) ∈ l) (h3 : ("unicode.Digit", (Rows.laid_unicode_Digit : DataW Unit)) ∈ l) : UTabs W := by
  refine ⟨?_, rvar_of_reads Tryd.lays261 xRE (by kernel_rfl) (by kernel_rfl) ((show (Rows.laid_unicode_Letter : DataW Unit) = Lib.rtabData Lib.letterT from Pinned.letter_eq) ▸ Lib.laidMet.reads hL h2), rvar_of_reads Tryd.lays261 xRE (by kernel_rfl) (by kernel_rfl) ((show (Rows.laid_unicode_Digit : DataW Unit) = Lib.rtabData Lib.digitT from Pinned.digit_eq) ▸ Lib.laidMet.reads hL h3)⟩
  have hr := Lib.laidMet.reads hL h1
  rw [uprops_eq] at hr
  obtain ⟨g, t, cs, fuel, p, hg, hty, hvar, hd⟩ := hr
  have h1 : Tryd.prog.globalNamed "unicode.properties" = some 1 := by kernel_rfl
  have h2 : (Tryd.prog.globals[1]?).map (·.type) = some 77 := by kernel_rfl
  obtain rfl := Option.some.inj (h1.symm.trans hg)
  obtain rfl := Option.some.inj (h2.symm.trans hty)
  unfold Lib.TabIs
  rw [hvar, ← cells_of_tab Tryd.underlying77 Tryd.underlying5 (by kernel_rfl) (by kernel_rfl) hd]
end Go.Proofs.YtcjfcjlendibpaaDoor
