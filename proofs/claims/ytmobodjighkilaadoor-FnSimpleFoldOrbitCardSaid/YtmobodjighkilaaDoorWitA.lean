/- A world in which the tables of package unicode that a row lists lie as they are listed: for the witness that a row asks for. -/
import Derived.Test.YtmobodjighkilaaDoorTabs
import Derived.Deep.DeepHandedRow
import Derived.Deep.DeepWitnessRowRef
namespace Go.Proofs.YtmobodjighkilaaDoor
open Go.Shelf Go.RowKit Go.Lib Go.Ftx
set_option maxRecDepth 100000

theorem own : ownKnob Tryd.prog.godebug = none := by kernel_rfl
theorem laidOut : laidOutB Tryd.prog = true := by kernel_rfl
def laidA : List (String × DataW Unit) := [("unicode.asciiFold", Rows.laid_unicode_asciiFold), ("unicode.caseOrbit", Rows.laid_unicode_caseOrbit), ("unicode.CaseRanges", Rows.laid_unicode_CaseRanges)]
theorem tabs_of_laidA {W : World} (h : laidMetH Tryd.prog laidA W) : FoldTabs W :=
  have h' : laidMet Tryd.prog laidA W := h
  foldTabs_of_reads (Lib.laidMet.reads h' (.head _)) (Lib.laidMet.reads h' (.tail _ (.head _))) (Lib.laidMet.reads h' (.tail _ (.tail _ (.head _))))

def putCells (h : Array Obj) (g : Nat) (cs : Array Value) : Array Obj := h.modify g fun
  | .cells _ t frozen => .cells cs t frozen
  | o => o
def asciiCells : Array Value := (asciiT.map fun (n : Nat) => Value.int .u16 (n : Int)).toArray
def orbCells : Array Value := (orbitT.flatMap fun x => [Value.int .u16 ((x.1 : Nat) : Int), Value.int .u16 ((x.2 : Nat) : Int)]).toArray
noncomputable def laidWorldA (os : Os) : World :=
  let N := (World.settled Tryd.prog os).heap.size
  let w0 := World.holding Tryd.prog os ⟨#[.cells orbCells 44, .cells Lib.caseCells5 52], #[], []⟩
  let h1 := putCells w0.heap 0 asciiCells
  let h2 := putCells h1 1 #[.slice (some ⟨N, 0, none⟩) 94 94]
  let h3 := putCells h2 2 #[.slice (some ⟨N + 1, 0, none⟩) 336 336]
  { w0 with heap := h3 }
theorem laid_metA (os : Os) (args : Array Value) : laidMet Tryd.prog laidA ((laidWorldA os).forCall (fun _ _ => 0) ⟨#[], args, []⟩).memory := by
  have h := laidMet_with_case (ρ := renC) laysC t206C extraC (w := ((laidWorldA os).forCall (fun _ _ => 0) ⟨#[], args, []⟩).memory)
    (l := [("unicode.asciiFold", Rows.laid_unicode_asciiFold), ("unicode.caseOrbit", Rows.laid_unicode_caseOrbit)])
    10 (by kernel_rfl) (by kernel_rfl) (by kernel_rfl) ((World.settled Tryd.prog default).heap.size + 1) 52 (of_decide_eq_true (by kernel_rfl)) (by kernel_rfl) (by kernel_rfl) (by kernel_rfl)
  rw [← Pinned.caseRanges_eq] at h
  exact h

end Go.Proofs.YtmobodjighkilaaDoor
