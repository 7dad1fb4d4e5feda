/- A world in which the variables that a row lists (unicode/utf8.acceptRanges, unicode.asciiFold, unicode.caseOrbit, unicode.CaseRanges, unicode/utf8.first) lie as they are listed: for the witness that a row asks for. -/
import Derived.Test.YtgljpgnmlpglnaaDoorWitBase
import Derived.Test.YtgljpgnmlpglnaaDoorTabs
import Derived.Test.YtgljpgnmlpglnaaDoorEqC
import Derived.Test.YtgljpgnmlpglnaaDoorU8
import Derived.Test.YtgljpgnmlpglnaaDoorLaidC
namespace Go.Proofs.YtgljpgnmlpglnaaDoor
open Go.Shelf Go.RowKit Go.Lib Go.Ftx
set_option maxRecDepth 100000

def laidB : List (String × DataW Unit) := [("unicode/utf8.acceptRanges", Rows.laid_unicode_utf8_acceptRanges), ("unicode.asciiFold", Rows.laid_unicode_asciiFold), ("unicode.caseOrbit", Rows.laid_unicode_caseOrbit), ("unicode.CaseRanges", Rows.laid_unicode_CaseRanges), ("unicode/utf8.first", Rows.laid_unicode_utf8_first)]
theorem tabs_of_laidB {W : World} (h : laidMetH Tryd.prog laidB W) : EqTabs W := by
  have h' : laidMet Tryd.prog laidB W := h
  have R0 := Lib.laidMet.reads h' (.head _)
  have R1 := Lib.laidMet.reads h' (.tail _ (.head _))
  have R2 := Lib.laidMet.reads h' (.tail _ (.tail _ (.head _)))
  have R3 := Lib.laidMet.reads h' (.tail _ (.tail _ (.tail _ (.head _))))
  have R4 := Lib.laidMet.reads h' (.tail _ (.tail _ (.tail _ (.tail _ (.head _)))))
  exact ⟨foldTabs_of_reads R1 R2 R3, utf8T_of_reads rfl rfl R4 R0⟩

noncomputable def laidWorldB (os : Os) : World :=
  let N := (World.settled Tryd.prog os).heap.size
  let w0 := World.holding Tryd.prog os ⟨#[.cells orbCells 57, .cells Lib.caseCells5 67], #[], []⟩
  let h0 := putCells w0.heap 1 ((List.range 16).flatMap fun i => [Value.int .u8 (Lib.accLo i), Value.int .u8 (Lib.accHi i)]).toArray
  let h1 := putCells h0 2 asciiCells
  let h2 := putCells h1 3 #[.slice (some ⟨N + 0, 0, none⟩) 94 94]
  let h3 := putCells h2 4 #[.slice (some ⟨N + 1, 0, none⟩) 336 336]
  let h4 := putCells h3 0 (Lib.firstTab.map fun z => Value.int .u8 z).toArray
  { w0 with heap := h4 }
noncomputable abbrev NB : Nat := (World.settled Tryd.prog default).heap.size
theorem pieceB0 (os : Os) (args : Array Value) : LaidIn Tryd.prog ((laidWorldB os).forCall (fun _ _ => 0) ⟨#[], args, []⟩).memory [("unicode/utf8.acceptRanges", Rows.laid_unicode_utf8_acceptRanges), ("unicode.asciiFold", Rows.laid_unicode_asciiFold), ("unicode.caseOrbit", Rows.laid_unicode_caseOrbit)] [1, 2, 3, NB + 0] := by
  exact LaidIn.of_run [1, 2, 3, NB + 0] 10 (by kernel_rfl) (by kernel_rfl) (by kernel_rfl) (by kernel_rfl)
theorem pieceB1 (os : Os) (args : Array Value) : LaidIn Tryd.prog ((laidWorldB os).forCall (fun _ _ => 0) ⟨#[], args, []⟩).memory [("unicode.CaseRanges", Rows.laid_unicode_CaseRanges)] [4, NB + 1] := by
  have h := laidIn_case (w := ((laidWorldB os).forCall (fun _ _ => 0) ⟨#[], args, []⟩).memory) (NB + 1) 67 (of_decide_eq_true (by kernel_rfl)) (by kernel_rfl) (by kernel_rfl)
  rw [← Pinned.caseRanges_eq] at h
  exact h
theorem pieceB2 (os : Os) (args : Array Value) : LaidIn Tryd.prog ((laidWorldB os).forCall (fun _ _ => 0) ⟨#[], args, []⟩).memory [("unicode/utf8.first", Rows.laid_unicode_utf8_first)] [0] := by
  exact LaidIn.of_run [0] 10 (by kernel_rfl) (by kernel_rfl) (by kernel_rfl) (by kernel_rfl)
theorem laid_metB (os : Os) (args : Array Value) : laidMet Tryd.prog laidB ((laidWorldB os).forCall (fun _ _ => 0) ⟨#[], args, []⟩).memory :=
  (((pieceB0 os args).append (pieceB1 os args) (by kernel_rfl)).append (pieceB2 os args) (by kernel_rfl)).met
end Go.Proofs.YtgljpgnmlpglnaaDoor
