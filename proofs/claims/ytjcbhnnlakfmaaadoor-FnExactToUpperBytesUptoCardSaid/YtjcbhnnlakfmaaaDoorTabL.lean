/- From what a row lists of unicode.properties and unicode.Letter to what the walks ask of them. -/
import Derived.Test.YtjcbhnnlakfmaaaDoorRows
import Derived.Test.YtjcbhnnlakfmaaaDoorLetT
import Derived.PinnedBridge
import Derived.Lib.LaidRTab
import Derived.Lib.LaidTab
import Derived.Lib.LaidIn
namespace Go.Proofs.YtjcbhnnlakfmaaaDoor
open Go.Shelf Go.RowKit Go.Lib
set_option maxRecDepth 100000

theorem xLetter : RExtra Tryd.prog Tryd.lays200_ren := ⟨by kernel_rfl, by kernel_rfl, by kernel_rfl, by kernel_rfl, by kernel_rfl, by kernel_rfl, by kernel_rfl, by kernel_rfl⟩
theorem gProp : Tryd.prog.globalNamed "unicode.properties" = some 2 := by kernel_rfl
theorem gPropT : (Tryd.prog.globals[2]?).map (·.type) = some 65 := by kernel_rfl
theorem cellsU8L : Tryd.prog.cellsOf 5 = 1 := by kernel_rfl
theorem cellsProp : Tryd.prog.cellsOf 65 = 256 := by kernel_rfl
theorem prop_data : (Rows.laid_unicode_properties : DataW Unit) = tabData .u8 Lib.propertiesTab := by kernel_rfl
theorem ltabs_of_reads {w : World} (h1 : VarReads Tryd.prog w "unicode.properties" Rows.laid_unicode_properties) (h2 : VarReads Tryd.prog w "unicode.Letter" Rows.laid_unicode_Letter) : LTabs w := by
  rw [prop_data] at h1
  have h2' : VarReads Tryd.prog w "unicode.Letter" (Lib.rtabData letterT) := by
    rw [← Pinned.letter_eq]
    exact h2
  refine ⟨?_, rvar_of_reads (ρ := Tryd.lays200_ren) { Tryd.lays200 with } xLetter (by kernel_rfl) (by kernel_rfl) h2'⟩
  obtain ⟨g', t', cs, fuel, p, hg', ht', hvar, hd⟩ := h1
  obtain rfl := Option.some.inj (gProp.symm.trans hg')
  obtain rfl := Option.some.inj (gPropT.symm.trans ht')
  unfold Lib.TabIs
  rw [hvar, ← cells_of_tab Tryd.underlying65 Tryd.underlying5 cellsU8L cellsProp hd]
end Go.Proofs.YtjcbhnnlakfmaaaDoor
