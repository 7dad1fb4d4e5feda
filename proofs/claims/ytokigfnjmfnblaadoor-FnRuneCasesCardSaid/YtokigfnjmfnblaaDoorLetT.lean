/- Letters: impl.IsLetter by the shelf's contract; laws.letters tells whether a text is valid and has letters alone. Written by gen_lett.py. -/
import Derived.Test.YtokigfnjmfnblaaDoorValid
import Derived.Test.YtokigfnjmfnblaaDoorPlainC
import Derived.Test.YtokigfnjmfnblaaDoorShelf
import Derived.Test.YtokigfnjmfnblaaDoorDrawRune
import Derived.Shelf.Unicode.PredsPay
import Derived.Deep.LoopGhost
namespace Go.Proofs.YtokigfnjmfnblaaDoor
open Go.Shelf Go.RowKit Go.Lib Go.Ftx

/-- the tables that IsLetter reads -/
def LTabs (w : World) : Prop := Lib.TabIs Tryd.prog w "unicode.properties" .u8 Lib.propertiesTab ∧ RVar 1 letterT w
theorem LTabs.grown {w w' : World} (h : LTabs w) (hg : w.grownBy w' none) : LTabs w' := ⟨TabIs_below (g := 0) (by kernel_rfl) h.1 (gbelow hg), RVar_below h.2 (gbelow hg)⟩
theorem uniLetter_any (r : Int) (w : World) (h0 : -2147483648 ≤ r) (h1 : r ≤ 2147483647) (hT : LTabs w) : Calls Tryd.prog 42 #[.int .i32 r] w (BoolPost w (isLetterU r)) :=
  (Any.unicode_IsLetter_all Tryd.lays200 (by kernel_rfl) r w h0 h1 hT.1 hT.2).mono fun _ _ ⟨he, hb⟩ => ⟨he, belowg hb⟩

theorem isLetter_is (r : Int) (w : World) (b : Bool) (h0 : -2147483648 ≤ r) (h1 : r ≤ 2147483647) (hT : LTabs w) (hb : isLetterU r = b) : Calls Tryd.prog 19 #[.int .i32 r] w (BoolPost w b) := by
  have cL := Lib.hid (uniLetter_any r w h0 h1 hT)
  rw [hb] at cL
  clear hT hb
  go_enter Tryd.func19, Tryd.ntmps19
  go_wp2_with fail
  refine cL.out.mono ?_
  rintro e w' ⟨rfl, hg⟩
  have HG := Lib.hid hg
  clear hg
  go_wp2_with fail
  go_ret
  exact ⟨rfl, HG.out⟩


theorem drawRuneUpper_any (w : World) (bv : Value) (hC : CodeAt w bv) : Calls Tryd.prog 15 #[bv] w (RunePost w) := by
  obtain ⟨a, len, cap, rfl⟩ : ∃ a len cap, bv = .slice a len cap := by
    rcases hC with ⟨a, cap, rfl⟩ | ⟨b, off, len, cap, rfl, _⟩
    · exact ⟨_, _, _, rfl⟩
    · exact ⟨_, _, _, rfl⟩
  have cD := Lib.hid (drawRune_any w _ hC)
  clear hC
  go_enter Tryd.func15, Tryd.ntmps15
  go_wp2_with fail
  refine cD.out.mono ?_
  rintro e w' ⟨r, hr0, hr1, rfl, hg⟩
  have HG := Lib.hid hg
  clear hg
  go_wp2_with fail
  go_ret
  exact ⟨r, hr0, hr1, rfl, HG.out⟩


end Go.Proofs.YtokigfnjmfnblaaDoor
