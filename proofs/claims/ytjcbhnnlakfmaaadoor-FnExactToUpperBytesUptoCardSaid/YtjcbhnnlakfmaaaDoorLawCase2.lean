/- Laws on the cases of strings, the second part: texts in sequence, letters. Written by gen_lawcase2.py. -/
import Derived.Test.YtjcbhnnlakfmaaaDoorLawCase
import Derived.Test.YtjcbhnnlakfmaaaDoorLetT
import Derived.Test.YtjcbhnnlakfmaaaDoorValidP
namespace Go.Ftx
open Go.Lib
theorem data_appC (a b : ByteArray) : (a ++ b).data.toList = a.data.toList ++ b.data.toList := by
  rw [ByteArray.data_append, Array.toList_append]
theorem join_out {f : Int → Int} {s t o u : ByteArray} (hs : validD s.data.toList = true) (ho : mapD f s.data.toList = o.data.toList) (hu : mapD f t.data.toList = u.data.toList) : mapD f (s ++ t).data.toList = (o ++ u).data.toList := by
  rw [data_appC, data_appC, turns_append _ (chars_valid_appendP _ _ _ (Nat.le_refl _) hs).1, ho, hu]
theorem size_appC {s t : ByteArray} {a b : Nat} (hs : s.size ≤ a) (ht : t.size ≤ b) : (s ++ t).size ≤ a + b := by rw [ByteArray.size_append]; omega
theorem app_not (s t : ByteArray) (h : s.data.toList ≠ [] ∨ t.data.toList ≠ []) : ((s ++ t).toList == ([] : List UInt8)) = false := by
  rw [ByteArray.toList_eq, data_appC]
  rcases h with h | h
  · cases e : s.data.toList with
    | nil => exact absurd e h
    | cons a l => rfl
  · cases e : t.data.toList with
    | nil => exact absurd e h
    | cons a l => cases s.data.toList <;> rfl
end Go.Ftx
namespace Go.Proofs.YtjcbhnnlakfmaaaDoor
open Go.RowKit Go.Lib Go.Ftx
/-- the tables of cases and of letters -/
def XTabs (w : World) : Prop := CTabs w ∧ LTabs w
theorem XTabs.grown {w w' : World} (h : XTabs w) (hg : w.grownBy w' none) : XTabs w' := ⟨h.1.grown hg, h.2.grown hg⟩
theorem letters_valid {l : List UInt8} (h : lettersB l = true) : Lib.validD l = true := by
  unfold lettersB at h
  rw [Bool.and_eq_true] at h
  exact h.2







end Go.Proofs.YtjcbhnnlakfmaaaDoor
