/- Laws on the cases of strings: for every input the call returns true, and nothing that was there changes. Written by gen_lawcase.py. -/
import Derived.Test.YtnlbeljdlmgclaaDoorCase
import Derived.Test.YtnlbeljdlmgclaaDoorCaseP
import Derived.Test.YtnlbeljdlmgclaaDoorDrawText
import Derived.Test.YtnlbeljdlmgclaaDoorText
namespace Go.Proofs.YtnlbeljdlmgclaaDoor
open Go.RowKit Go.Lib Go.Ftx
theorem ascii_isC (s : ByteArray) (w : World) (b : Bool) (hs : s.size ≤ 4611686018427387904) (h : asciiB s.data.toList = b) :
    Calls Tryd.prog 12 #[.string s] w fun e w' => e = .returned (.bool b) ∧ w = w' := h ▸ ascii_any s w hs
theorem valid_isC (s : ByteArray) (w : World) (b : Bool) (hs : s.size ≤ 9223372036854775807) (hT : CTabs w) (h : Lib.validD s.data.toList = b) :
    Calls Tryd.prog 23 #[.string s] w (BoolPost w b) := h ▸ valid_any s w hs hT.2












end Go.Proofs.YtnlbeljdlmgclaaDoor
