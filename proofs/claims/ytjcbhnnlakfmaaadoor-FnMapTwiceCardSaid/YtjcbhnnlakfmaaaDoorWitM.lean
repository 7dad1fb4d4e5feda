/- A world in which the variables that a row lists (unicode/utf8.acceptRanges, unicode/utf8.first) lie as they are listed: for the witness that a row asks for. -/
import Derived.Test.YtjcbhnnlakfmaaaDoorWitBase
import Derived.Test.YtjcbhnnlakfmaaaDoorU8
namespace Go.Proofs.YtjcbhnnlakfmaaaDoor
open Go.Shelf Go.RowKit Go.Lib Go.Ftx
set_option maxRecDepth 100000

def laidM : List (String × DataW Unit) := [("unicode/utf8.acceptRanges", Rows.laid_unicode_utf8_acceptRanges), ("unicode/utf8.first", Rows.laid_unicode_utf8_first)]
theorem tabs_of_laidM {W : World} (h : laidMetH Tryd.prog laidM W) : Utf8T W := by
  have h' : laidMet Tryd.prog laidM W := h
  have R0 := Lib.laidMet.reads h' (.head _)
  have R1 := Lib.laidMet.reads h' (.tail _ (.head _))
  exact utf8T_of_reads rfl rfl R1 R0

noncomputable def laidWorldM (os : Os) : World :=
  let w0 := World.holding Tryd.prog os ⟨#[], #[], []⟩
  let h0 := putCells w0.heap 1 ((List.range 16).flatMap fun i => [Value.int .u8 (Lib.accLo i), Value.int .u8 (Lib.accHi i)]).toArray
  let h1 := putCells h0 0 (Lib.firstTab.map fun z => Value.int .u8 z).toArray
  { w0 with heap := h1 }
theorem pieceM0 (os : Os) (args : Array Value) : LaidIn Tryd.prog ((laidWorldM os).forCall (fun _ _ => 0) ⟨#[], args, []⟩).memory [("unicode/utf8.acceptRanges", Rows.laid_unicode_utf8_acceptRanges), ("unicode/utf8.first", Rows.laid_unicode_utf8_first)] [1, 0] := by
  exact LaidIn.of_run [1, 0] 10 (by kernel_rfl) (by kernel_rfl) (by kernel_rfl) (by kernel_rfl)
theorem laid_metM (os : Os) (args : Array Value) : laidMet Tryd.prog laidM ((laidWorldM os).forCall (fun _ _ => 0) ⟨#[], args, []⟩).memory :=
  (pieceM0 os args).met
end Go.Proofs.YtjcbhnnlakfmaaaDoor
