/- Laws on the cases of strings: for every input the call returns true, and nothing that was there changes. Written by gen_lawcase.py. -/
import Derived.Test.YtjcbhnnlakfmaaaDoorCase
import Derived.Test.YtjcbhnnlakfmaaaDoorCaseP
import Derived.Test.YtjcbhnnlakfmaaaDoorDrawText
import Derived.Test.YtjcbhnnlakfmaaaDoorText
namespace Go.Proofs.YtjcbhnnlakfmaaaDoor
open Go.RowKit Go.Lib Go.Ftx
theorem ascii_isC (s : ByteArray) (w : World) (b : Bool) (hs : s.size ≤ 4611686018427387904) (h : asciiB s.data.toList = b) :
    Calls Tryd.prog 33 #[.string s] w fun e w' => e = .returned (.bool b) ∧ w = w' := h ▸ ascii_any s w hs
theorem valid_isC (s : ByteArray) (w : World) (b : Bool) (hs : s.size ≤ 9223372036854775807) (hT : CTabs w) (h : Lib.validD s.data.toList = b) :
    Calls Tryd.prog 13 #[.string s] w (BoolPost w b) := h ▸ valid_any s w hs hT.2
theorem upperText_is (s : ByteArray) (w : World) (o : ByteArray) (hs : s.size ≤ 140737488351232) (ho : s.data.toList.map uppB = o.data.toList) :
    Calls Tryd.prog 34 #[.string s] w fun e w' => e = .returned (.string o) ∧ w.grownBy w' none := by
  have h := upperText_any s w hs
  rw [ho] at h
  exact h












end Go.Proofs.YtjcbhnnlakfmaaaDoor
