/- A world in which the variables that a row lists (unicode.properties, unicode.CaseRanges, unicode.Letter) lie as they are listed: for the witness that a row asks for. -/
import Derived.Test.YtokigfnjmfnblaaDoorWitBase
import Derived.Test.YtokigfnjmfnblaaDoorCaseC
import Derived.Test.YtokigfnjmfnblaaDoorLaidC
import Derived.Test.YtokigfnjmfnblaaDoorLawRune
import Derived.Test.YtokigfnjmfnblaaDoorTabL
namespace Go.Proofs.YtokigfnjmfnblaaDoor
open Go.Shelf Go.RowKit Go.Lib Go.Ftx
set_option maxRecDepth 100000

def laidR : List (String × DataW Unit) := [("unicode.properties", Rows.laid_unicode_properties), ("unicode.CaseRanges", Rows.laid_unicode_CaseRanges), ("unicode.Letter", Rows.laid_unicode_Letter)]
theorem tabs_of_laidR {W : World} (h : laidMetH Tryd.prog laidR W) : RTabs W := by
  have h' : laidMet Tryd.prog laidR W := h
  have R0 := Lib.laidMet.reads h' (.head _)
  have R1 := Lib.laidMet.reads h' (.tail _ (.head _))
  have R2 := Lib.laidMet.reads h' (.tail _ (.tail _ (.head _)))
  exact ⟨caseV_of_reads R1, ltabs_of_reads R0 R2⟩

noncomputable def laidWorldR (os : Os) : World :=
  let N := (World.settled Tryd.prog os).heap.size
  let w0 := World.holding Tryd.prog os ⟨#[.cells Lib.caseCells5 97, .cells (Lib.rgCells .u16 Lib.letterT.r16) (Tryd.lays200_ren.t 198), .cells (Lib.rgCells .u32 Lib.letterT.r32) (Tryd.lays200_ren.t 201), .cells #[.slice (some ⟨N + 1, 0, none⟩) Lib.letterT.r16.size Lib.letterT.r16.size, .slice (some ⟨N + 2, 0, none⟩) Lib.letterT.r32.size Lib.letterT.r32.size, .int .i64 Lib.letterT.off] (Tryd.lays200_ren.t 196)], #[], []⟩
  let h0 := putCells w0.heap 0 (Lib.propertiesTab.map fun z => Value.int .u8 z).toArray
  let h1 := putCells h0 4 #[.slice (some ⟨N + 0, 0, none⟩) 336 336]
  let h2 := putCells h1 1 #[.pointer (some ⟨N + 3, 0, none⟩)]
  { w0 with heap := h2 }
noncomputable abbrev NR : Nat := (World.settled Tryd.prog default).heap.size
theorem pieceR0 (os : Os) (args : Array Value) : LaidIn Tryd.prog ((laidWorldR os).forCall (fun _ _ => 0) ⟨#[], args, []⟩).memory [("unicode.properties", Rows.laid_unicode_properties)] [0] := by
  exact LaidIn.of_run [0] 10 (by kernel_rfl) (by kernel_rfl) (by kernel_rfl) (by kernel_rfl)
theorem pieceR1 (os : Os) (args : Array Value) : LaidIn Tryd.prog ((laidWorldR os).forCall (fun _ _ => 0) ⟨#[], args, []⟩).memory [("unicode.CaseRanges", Rows.laid_unicode_CaseRanges)] [4, NR + 0] := by
  have h := laidIn_case (w := ((laidWorldR os).forCall (fun _ _ => 0) ⟨#[], args, []⟩).memory) (NR + 0) 97 (of_decide_eq_true (by kernel_rfl)) (by kernel_rfl) (by kernel_rfl)
  rw [← Pinned.caseRanges_eq] at h
  exact h
theorem pieceR2 (os : Os) (args : Array Value) : LaidIn Tryd.prog ((laidWorldR os).forCall (fun _ _ => 0) ⟨#[], args, []⟩).memory [("unicode.Letter", Rows.laid_unicode_Letter)] [1, NR + 3, NR + 1, NR + 2] := by
  have h := laidIn_rtab (ρ := Tryd.lays200_ren) { Tryd.lays200 with } xLetter (name := "unicode.Letter") (g := 1) (w := ((laidWorldR os).forCall (fun _ _ => 0) ⟨#[], args, []⟩).memory) (by kernel_rfl) (by kernel_rfl) Lib.letterT (NR + 3) (NR + 1) (NR + 2) (Tryd.lays200_ren.t 198) (Tryd.lays200_ren.t 201)
    (by kernel_rfl) (by kernel_rfl) (by kernel_rfl) (by kernel_rfl) (by kernel_rfl) (of_decide_eq_true (by kernel_rfl)) (of_decide_eq_true (by kernel_rfl)) (of_decide_eq_true (by kernel_rfl))
  rw [← Pinned.letter_eq] at h
  exact h
theorem laid_metR (os : Os) (args : Array Value) : laidMet Tryd.prog laidR ((laidWorldR os).forCall (fun _ _ => 0) ⟨#[], args, []⟩).memory :=
  (((pieceR0 os args).append (pieceR1 os args) (by kernel_rfl)).append (pieceR2 os args) (by kernel_rfl)).met
end Go.Proofs.YtokigfnjmfnblaaDoor
