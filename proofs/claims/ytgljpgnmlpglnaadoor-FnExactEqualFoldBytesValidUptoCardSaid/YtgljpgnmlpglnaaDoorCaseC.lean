/- From what a row lists of unicode.CaseRanges to what the walks ask of it. -/
import Derived.Test.YtgljpgnmlpglnaaDoorRows
import Derived.Test.YtgljpgnmlpglnaaDoorShelf
import Derived.PinnedBridge
import Derived.Lib.LaidCase
namespace Go.Proofs.YtgljpgnmlpglnaaDoor
open Go.Shelf Go.RowKit Go.Lib
set_option maxRecDepth 100000

/-- the numbers of unicode.CaseRanges at this translation -/
def renC : Ren := ⟨Tryd.lays274_ren.f, Tryd.lays274_ren.t, fun _ => 4⟩
theorem laysC : Lays.n274 Tryd.prog renC := { Tryd.lays274 with }
theorem t206C : Tryd.prog.underlying (renC.t 206) = some (.array 3 (renC.t 21)) := by kernel_rfl
theorem extraC : CaseExtra Tryd.prog renC := ⟨by kernel_rfl, by kernel_rfl, by kernel_rfl, by kernel_rfl, by kernel_rfl, by kernel_rfl⟩
theorem caseV_of_reads {w : World} (h : VarReads Tryd.prog w "unicode.CaseRanges" Rows.laid_unicode_CaseRanges) : CaseVar 4 caseA w := by
  have h' : VarReads Tryd.prog w "unicode.CaseRanges" caseData := by
    rw [← Pinned.caseRanges_eq]
    exact h
  exact caseVar_of_reads laysC t206C extraC h'

end Go.Proofs.YtgljpgnmlpglnaaDoor
