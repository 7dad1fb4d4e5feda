/- A valid text in front: its characters come first. -/
import Derived.Test.YtjcbhnnlakfmaaaDoorChars
namespace Go.Ftx
open Go.Lib
theorem chars_valid_appendP : ∀ (n : Nat) (l m : List UInt8), l.length ≤ n → validD l = true → chars (l ++ m) = chars l ++ chars m ∧ validD (l ++ m) = validD m := by
  intro n
  induction n with
  | zero =>
    intro l m hn _
    have : l = [] := List.length_eq_zero_iff.1 (by omega)
    subst this
    exact ⟨rfl, rfl⟩
  | succ n ih =>
    intro l m hn hv
    by_cases hl : l = []
    · subst hl; exact ⟨rfl, rfl⟩
    · rw [validD_step l hl] at hv
      split at hv
      · cases hv
      · rename_i hbad
        have hp := decodeL_pos l hl
        have hle := decodeL_le l hl
        have hd : decodeL (l ++ m) = decodeL l := decodeL_append l m hl hbad
        have hne : l ++ m ≠ [] := by simp [hl]
        have hdrop : (l ++ m).drop (decodeL l).2 = l.drop (decodeL l).2 ++ m := List.drop_append_of_le_length hle
        obtain ⟨i1, i2⟩ := ih (l.drop (decodeL l).2) m (by rw [List.length_drop]; omega) hv
        constructor
        · rw [chars_step _ hne, hd, hdrop, i1, chars_step l hl, List.cons_append]
        · rw [validD_step _ hne, hd, if_neg hbad, hdrop, i2]
end Go.Ftx
