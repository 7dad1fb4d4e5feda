/- A world in which the variables that a row lists (unicode/utf8.acceptRanges, unicode.CaseRanges, unicode/utf8.first) lie as they are listed: for the witness that a row asks for. -/
import Derived.Test.YtjcbhnnlakfmaaaDoorWitBase
import Derived.Test.YtjcbhnnlakfmaaaDoorCaseC
import Derived.Test.YtjcbhnnlakfmaaaDoorCase
import Derived.Test.YtjcbhnnlakfmaaaDoorU8
import Derived.Test.YtjcbhnnlakfmaaaDoorLaidC
namespace Go.Proofs.YtjcbhnnlakfmaaaDoor
open Go.Shelf Go.RowKit Go.Lib Go.Ftx
set_option maxRecDepth 100000

def laidC : List (String × DataW Unit) := [("unicode/utf8.acceptRanges", Rows.laid_unicode_utf8_acceptRanges), ("unicode.CaseRanges", Rows.laid_unicode_CaseRanges), ("unicode/utf8.first", Rows.laid_unicode_utf8_first)]
theorem tabs_of_laidC {W : World} (h : laidMetH Tryd.prog laidC W) : CTabs W := by
  have h' : laidMet Tryd.prog laidC W := h
  have R0 := Lib.laidMet.reads h' (.head _)
  have R1 := Lib.laidMet.reads h' (.tail _ (.head _))
  have R2 := Lib.laidMet.reads h' (.tail _ (.tail _ (.head _)))
  exact ⟨caseV_of_reads R1, utf8T_of_reads rfl rfl R2 R0⟩

noncomputable def laidWorldC (os : Os) : World :=
  let N := (World.settled Tryd.prog os).heap.size
  let w0 := World.holding Tryd.prog os ⟨#[.cells Lib.caseCells5 118], #[], []⟩
  let h0 := putCells w0.heap 1 ((List.range 16).flatMap fun i => [Value.int .u8 (Lib.accLo i), Value.int .u8 (Lib.accHi i)]).toArray
  let h1 := putCells h0 6 #[.slice (some ⟨N + 0, 0, none⟩) 336 336]
  let h2 := putCells h1 0 (Lib.firstTab.map fun z => Value.int .u8 z).toArray
  { w0 with heap := h2 }
noncomputable abbrev NC : Nat := (World.settled Tryd.prog default).heap.size
theorem pieceC0 (os : Os) (args : Array Value) : LaidIn Tryd.prog ((laidWorldC os).forCall (fun _ _ => 0) ⟨#[], args, []⟩).memory [("unicode/utf8.acceptRanges", Rows.laid_unicode_utf8_acceptRanges)] [1] := by
  exact LaidIn.of_run [1] 10 (by kernel_rfl) (by kernel_rfl) (by kernel_rfl) (by kernel_rfl)
theorem pieceC1 (os : Os) (args : Array Value) : LaidIn Tryd.prog ((laidWorldC os).forCall (fun _ _ => 0) ⟨#[], args, []⟩).memory [("unicode.CaseRanges", Rows.laid_unicode_CaseRanges)] [6, NC + 0] := by
  have h := laidIn_case (w := ((laidWorldC os).forCall (fun _ _ => 0) ⟨#[], args, []⟩).memory) (NC + 0) 118 (of_decide_eq_true (by kernel_rfl)) (by kernel_rfl) (by kernel_rfl)
  rw [← Pinned.caseRanges_eq] at h
  exact h
theorem pieceC2 (os : Os) (args : Array Value) : LaidIn Tryd.prog ((laidWorldC os).forCall (fun _ _ => 0) ⟨#[], args, []⟩).memory [("unicode/utf8.first", Rows.laid_unicode_utf8_first)] [0] := by
  exact LaidIn.of_run [0] 10 (by kernel_rfl) (by kernel_rfl) (by kernel_rfl) (by kernel_rfl)
theorem laid_metC (os : Os) (args : Array Value) : laidMet Tryd.prog laidC ((laidWorldC os).forCall (fun _ _ => 0) ⟨#[], args, []⟩).memory :=
  (((pieceC0 os args).append (pieceC1 os args) (by kernel_rfl)).append (pieceC2 os args) (by kernel_rfl)).met
end Go.Proofs.YtjcbhnnlakfmaaaDoor
