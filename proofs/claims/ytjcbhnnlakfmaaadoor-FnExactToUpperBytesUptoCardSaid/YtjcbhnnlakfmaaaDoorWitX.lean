/- A world in which the variables that a row lists (unicode/utf8.acceptRanges, unicode.properties, unicode.CaseRanges, unicode.Letter, unicode/utf8.first) lie as they are listed: for the witness that a row asks for. -/
import Derived.Test.YtjcbhnnlakfmaaaDoorWitBase
import Derived.Test.YtjcbhnnlakfmaaaDoorCaseC
import Derived.Test.YtjcbhnnlakfmaaaDoorLaidC
import Derived.Test.YtjcbhnnlakfmaaaDoorU8
import Derived.Test.YtjcbhnnlakfmaaaDoorTabL
import Derived.Test.YtjcbhnnlakfmaaaDoorLawCase2
namespace Go.Proofs.YtjcbhnnlakfmaaaDoor
open Go.Shelf Go.RowKit Go.Lib Go.Ftx
set_option maxRecDepth 100000

def laidX : List (String × DataW Unit) := [("unicode/utf8.acceptRanges", Rows.laid_unicode_utf8_acceptRanges), ("unicode.properties", Rows.laid_unicode_properties), ("unicode.CaseRanges", Rows.laid_unicode_CaseRanges), ("unicode.Letter", Rows.laid_unicode_Letter), ("unicode/utf8.first", Rows.laid_unicode_utf8_first)]
theorem tabs_of_laidX {W : World} (h : laidMetH Tryd.prog laidX W) : XTabs W := by
  have h' : laidMet Tryd.prog laidX W := h
  have R0 := Lib.laidMet.reads h' (.head _)
  have R1 := Lib.laidMet.reads h' (.tail _ (.head _))
  have R2 := Lib.laidMet.reads h' (.tail _ (.tail _ (.head _)))
  have R3 := Lib.laidMet.reads h' (.tail _ (.tail _ (.tail _ (.head _))))
  have R4 := Lib.laidMet.reads h' (.tail _ (.tail _ (.tail _ (.tail _ (.head _)))))
  exact ⟨⟨caseV_of_reads R2, utf8T_of_reads rfl rfl R4 R0⟩, ltabs_of_reads R1 R3⟩

noncomputable def laidWorldX (os : Os) : World :=
  let N := (World.settled Tryd.prog os).heap.size
  let w0 := World.holding Tryd.prog os ⟨#[.cells Lib.caseCells5 118, .cells (Lib.rgCells .u16 Lib.letterT.r16) (Tryd.lays200_ren.t 198), .cells (Lib.rgCells .u32 Lib.letterT.r32) (Tryd.lays200_ren.t 201), .cells #[.slice (some ⟨N + 1, 0, none⟩) Lib.letterT.r16.size Lib.letterT.r16.size, .slice (some ⟨N + 2, 0, none⟩) Lib.letterT.r32.size Lib.letterT.r32.size, .int .i64 Lib.letterT.off] (Tryd.lays200_ren.t 196)], #[], []⟩
  let h0 := putCells w0.heap 1 ((List.range 16).flatMap fun i => [Value.int .u8 (Lib.accLo i), Value.int .u8 (Lib.accHi i)]).toArray
  let h1 := putCells h0 2 (Lib.propertiesTab.map fun z => Value.int .u8 z).toArray
  let h2 := putCells h1 6 #[.slice (some ⟨N + 0, 0, none⟩) 336 336]
  let h3 := putCells h2 3 #[.pointer (some ⟨N + 3, 0, none⟩)]
  let h4 := putCells h3 0 (Lib.firstTab.map fun z => Value.int .u8 z).toArray
  { w0 with heap := h4 }
noncomputable abbrev NX : Nat := (World.settled Tryd.prog default).heap.size
theorem pieceX0 (os : Os) (args : Array Value) : LaidIn Tryd.prog ((laidWorldX os).forCall (fun _ _ => 0) ⟨#[], args, []⟩).memory [("unicode/utf8.acceptRanges", Rows.laid_unicode_utf8_acceptRanges), ("unicode.properties", Rows.laid_unicode_properties)] [1, 2] := by
  exact LaidIn.of_run [1, 2] 10 (by kernel_rfl) (by kernel_rfl) (by kernel_rfl) (by kernel_rfl)
theorem pieceX1 (os : Os) (args : Array Value) : LaidIn Tryd.prog ((laidWorldX os).forCall (fun _ _ => 0) ⟨#[], args, []⟩).memory [("unicode.CaseRanges", Rows.laid_unicode_CaseRanges)] [6, NX + 0] := by
  have h := laidIn_case (w := ((laidWorldX os).forCall (fun _ _ => 0) ⟨#[], args, []⟩).memory) (NX + 0) 118 (of_decide_eq_true (by kernel_rfl)) (by kernel_rfl) (by kernel_rfl)
  rw [← Pinned.caseRanges_eq] at h
  exact h
theorem pieceX2 (os : Os) (args : Array Value) : LaidIn Tryd.prog ((laidWorldX os).forCall (fun _ _ => 0) ⟨#[], args, []⟩).memory [("unicode.Letter", Rows.laid_unicode_Letter)] [3, NX + 3, NX + 1, NX + 2] := by
  have h := laidIn_rtab (ρ := Tryd.lays200_ren) { Tryd.lays200 with } xLetter (name := "unicode.Letter") (g := 3) (w := ((laidWorldX os).forCall (fun _ _ => 0) ⟨#[], args, []⟩).memory) (by kernel_rfl) (by kernel_rfl) Lib.letterT (NX + 3) (NX + 1) (NX + 2) (Tryd.lays200_ren.t 198) (Tryd.lays200_ren.t 201)
    (by kernel_rfl) (by kernel_rfl) (by kernel_rfl) (by kernel_rfl) (by kernel_rfl) (of_decide_eq_true (by kernel_rfl)) (of_decide_eq_true (by kernel_rfl)) (of_decide_eq_true (by kernel_rfl))
  rw [← Pinned.letter_eq] at h
  exact h
theorem pieceX3 (os : Os) (args : Array Value) : LaidIn Tryd.prog ((laidWorldX os).forCall (fun _ _ => 0) ⟨#[], args, []⟩).memory [("unicode/utf8.first", Rows.laid_unicode_utf8_first)] [0] := by
  exact LaidIn.of_run [0] 10 (by kernel_rfl) (by kernel_rfl) (by kernel_rfl) (by kernel_rfl)
theorem laid_metX (os : Os) (args : Array Value) : laidMet Tryd.prog laidX ((laidWorldX os).forCall (fun _ _ => 0) ⟨#[], args, []⟩).memory :=
  ((((pieceX0 os args).append (pieceX1 os args) (by kernel_rfl)).append (pieceX2 os args) (by kernel_rfl)).append (pieceX3 os args) (by kernel_rfl)).met
end Go.Proofs.YtjcbhnnlakfmaaaDoor
