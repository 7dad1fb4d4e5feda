/- The decoder's two tables, as their initialisers lay them. -/
import Derived.Test.YtgljpgnmlpglnaaDoorWorlds
import Derived.Shelf.Unicode.DecodeSlow
namespace Go.Proofs.YtgljpgnmlpglnaaDoor
open Go.RowKit Go.Lib
def Utf8T (w : World) : Prop := Lib.Utf8Tabs 0 1 w
theorem Utf8T.grown {w w' : World} (h : Utf8T w) (hg : w.grownBy w' none) : Utf8T w' := Utf8Tabs_below h (gbelow hg)
end Go.Proofs.YtgljpgnmlpglnaaDoor
