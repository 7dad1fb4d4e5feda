/- spec.Valid; a slice of characters; what a function that answers a truth value leaves. -/
import Derived.Test.YtgljpgnmlpglnaaDoorCharsW
import Derived.Test.YtgljpgnmlpglnaaDoorUtf8
import Derived.Test.YtgljpgnmlpglnaaDoorShelf
import Derived.Shelf.Unicode.ValidAny
namespace Go.Proofs.YtgljpgnmlpglnaaDoor
open Go.Shelf Go.RowKit Go.Lib Go.Ftx

def StrPost (w : World) (l : List UInt8) (e : Ending) (w' : World) : Prop := e = .returned (.string ⟨l.toArray⟩) ∧ w.grownBy w' none
def BoolPost (w : World) (b : Bool) (e : Ending) (w' : World) : Prop := e = .returned (.bool b) ∧ w.grownBy w' none

theorem valid_any (s : ByteArray) (w : World) (hs : s.size ≤ 9223372036854775807) (hU : Utf8T w) :
    Calls Tryd.prog 18 #[.string s] w (BoolPost w (Lib.validD s.data.toList)) := by
  have cV : Calls Tryd.prog 31 #[.string s] w _ := Any.utf8_ValidString Tryd.laysValid s w hs hU
  have CV := Lib.hid cV
  generalize Lib.validD s.data.toList = V at *
  clear cV hU
  go_enter Tryd.func18, Tryd.ntmps18
  go_wp2_with fail
  refine CV.out.mono ?_
  rintro e w' ⟨rfl, hb⟩
  have HB := Lib.hid (belowg hb)
  clear hb
  go_wp2_with fail
  go_ret
  exact ⟨rfl, HB.out⟩

/-- a slice of characters lies in a block of its own -/
def RunesAt (w : World) (g : Nat) (rs : List Nat) : Prop := ∀ i, i < rs.length → w.cell? ⟨g, i, none⟩ = some (.int .i32 ((rs.getD i 0 : Nat) : Int))
theorem RunesAt.grown {w w' : World} {g : Nat} {rs : List Nat} (h : RunesAt w g rs) (hg : w.grownBy w' none) : RunesAt w' g rs := fun i hi => hg.cell (h i hi) (by simp)
theorem runesAt_of {w : World} {base g cap : Nat} {rs : List Nat} (h : w.ownsRow base 21 1 (.slice (some ⟨g, 0, none⟩) rs.length cap) rs.length (runeVals rs)) : RunesAt w g rs := fun i hi => by
  rw [h.cellAt i (by omega)]
  simp [runeVals, List.getD, hi]
end Go.Proofs.YtgljpgnmlpglnaaDoor
