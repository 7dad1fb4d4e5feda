/- From what a row lists of the decoder's two tables to what the walks ask of them. -/
import Derived.Test.YtgljpgnmlpglnaaDoorRows
import Derived.Test.YtgljpgnmlpglnaaDoorUtf8
import Derived.PinnedBridge
import Derived.Lib.LaidU8T
namespace Go.Proofs.YtgljpgnmlpglnaaDoor
open Go.Shelf Go.RowKit Go.Lib
set_option maxRecDepth 100000

/-- the numbers of the decoder's types and variables at this translation -/
def renU : Ren := ⟨fun n => n, fun | 5 => 5 | 119 => 47 | 138 => 49 | 139 => 50 | n => n, fun | 3 => 0 | 4 => 1 | n => n⟩
theorem typesU : U8Types Tryd.prog renU := ⟨Tryd.underlying5, Tryd.underlying47, Tryd.underlying49, Tryd.underlying50⟩
theorem extraU : U8Extra Tryd.prog renU := ⟨by kernel_rfl, by kernel_rfl, by kernel_rfl, by kernel_rfl, by kernel_rfl, by kernel_rfl, by kernel_rfl⟩
theorem accept_data : (Rows.laid_unicode_utf8_acceptRanges : DataW Unit) = acceptData := by kernel_rfl
theorem first_data : Rows.laid_unicode_utf8_first = firstData := Pinned.utf8First_eq
theorem utf8T_of_reads {w : World} {n3 n4 : String} (e3 : n3 = "unicode/utf8.first") (e4 : n4 = "unicode/utf8.acceptRanges") (h3 : VarReads Tryd.prog w n3 Rows.laid_unicode_utf8_first) (h4 : VarReads Tryd.prog w n4 Rows.laid_unicode_utf8_acceptRanges) : Utf8T w := by
  subst e3 e4
  rw [first_data] at h3
  rw [accept_data] at h4
  exact utf8Tabs_of_readsT typesU extraU h3 h4
end Go.Proofs.YtgljpgnmlpglnaaDoor
