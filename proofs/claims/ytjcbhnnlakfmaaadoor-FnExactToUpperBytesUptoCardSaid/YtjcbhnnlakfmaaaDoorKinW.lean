/- laws.kin returns whether SimpleFold leads from one code point to the other within eight steps; spec.Lower and spec.Upper turn letters of one byte. -/
import Derived.Test.YtjcbhnnlakfmaaaDoorKinP
import Derived.Test.YtjcbhnnlakfmaaaDoorFoldW
import Derived.Test.YtjcbhnnlakfmaaaDoorWorlds
namespace Go.Proofs.YtjcbhnnlakfmaaaDoor
open Go.RowKit Go.Lib Go.Ftx

theorem FoldTabs.grown {w w' : World} (h : FoldTabs w) (hg : w.grownBy w' none) : FoldTabs w' := FoldTabs_below h (gbelow hg)
theorem FoldTabs.drewN {w : World} (h : FoldTabs w) (q : Nat) : FoldTabs (w.drewN q) := h


end Go.Proofs.YtjcbhnnlakfmaaaDoor
