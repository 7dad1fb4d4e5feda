/- What every witness world of these rows is made of. -/
import Derived.Test.YtgljpgnmlpglnaaDoorRows
import Derived.Test.YtgljpgnmlpglnaaDoorPlain
import Derived.PinnedBridge
import Derived.Lib.LaidIn
import Derived.Deep.DeepHandedRow
import Derived.Deep.DeepWitnessRowRef
namespace Go.Proofs.YtgljpgnmlpglnaaDoor
open Go.Shelf Go.RowKit Go.Lib Go.Ftx
set_option maxRecDepth 100000

theorem own : ownKnob Tryd.prog.godebug = none := by kernel_rfl
theorem laidOut : laidOutB Tryd.prog = true := by kernel_rfl
def putCells (h : Array Obj) (g : Nat) (cs : Array Value) : Array Obj := h.modify g fun
  | .cells _ t frozen => .cells cs t frozen
  | o => o
def asciiCells : Array Value := (asciiT.map fun (n : Nat) => Value.int .u16 (n : Int)).toArray
def orbCells : Array Value := (orbitT.flatMap fun x => [Value.int .u16 ((x.1 : Nat) : Int), Value.int .u16 ((x.2 : Nat) : Int)]).toArray
end Go.Proofs.YtgljpgnmlpglnaaDoor
