/- EqualFold by its contract, as the laws use it. -/
import Derived.Test.YtgljpgnmlpglnaaDoorKinAll
import Derived.Test.YtgljpgnmlpglnaaDoorEqP
namespace Go.Proofs.YtgljpgnmlpglnaaDoor
open Go.RowKit Go.Lib Go.Ftx

/-- the tables that EqualFold reads -/
def EqTabs (w : World) : Prop := FoldTabs w ∧ Utf8T w
theorem EqTabs.grown {w w' : World} (h : EqTabs w) (hg : w.grownBy w' none) : EqTabs w' := ⟨h.1.grown hg, h.2.grown hg⟩
theorem eq_call (s t : ByteArray) (w : World) (b : Bool) (hs : s.size ≤ 4611686018427387904) (ht : t.size ≤ 4611686018427387904) (hT : EqTabs w) (hb : eqF s.data.toList t.data.toList = b) :
    Calls Tryd.prog 15 #[.string s, .string t] w (BoolPost w b) := hb ▸ implEq_any s t w hs ht hT.1 hT.2
end Go.Proofs.YtgljpgnmlpglnaaDoor
