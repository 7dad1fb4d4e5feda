/- The characters of a text, as the decoder gives them one by one: plain facts. -/
import Derived.Lib.TrimUEq
import Derived.Lib.RuneCount
import Derived.Lib.MapLaws
import Derived.Lib.ValidLaws
import Derived.Lib.TrimAscii
import GoSem.Conv.StringToRunes
namespace Go.Ftx
open Go.Lib

def charsN : Nat → List UInt8 → List Nat
  | 0, _ => []
  | n + 1, l => if l = [] then [] else (decodeL l).1 :: charsN n (l.drop (decodeL l).2)
/-- the characters of a text -/
def chars (l : List UInt8) : List Nat := charsN l.length l

theorem decodeL_pos (l : List UInt8) (h : l ≠ []) : 1 ≤ (decodeL l).2 := by
  have h' : 0 < l.length := List.length_pos_iff.2 h
  exact decode_width_pos ⟨l.toArray⟩ 0 (by show 0 < l.toArray.size; simpa using h')

theorem charsN_fuel : ∀ (n m : Nat) (l : List UInt8), l.length ≤ n → l.length ≤ m → charsN n l = charsN m l
  | 0, m, l, h, _ => by
    have : l = [] := List.length_eq_zero_iff.1 (by omega)
    subst this
    cases m <;> simp [charsN]
  | n + 1, 0, l, _, h => by
    have : l = [] := List.length_eq_zero_iff.1 (by omega)
    subst this
    simp [charsN]
  | n + 1, m + 1, l, h, h' => by
    unfold charsN
    split
    · rfl
    · rename_i hne
      have := decodeL_pos l hne
      rw [charsN_fuel n m _ (by simp; omega) (by simp; omega)]
theorem chars_nil : chars [] = [] := rfl
theorem chars_step (l : List UInt8) (h : l ≠ []) : chars l = (decodeL l).1 :: chars (l.drop (decodeL l).2) := by
  unfold chars
  have hp := decodeL_pos l h
  obtain ⟨n, hn⟩ : ∃ n, l.length = n + 1 := ⟨l.length - 1, by have := List.length_pos_iff.2 h; omega⟩
  rw [hn]
  conv => lhs; unfold charsN
  rw [if_neg h, charsN_fuel n (l.drop (decodeL l).2).length _ (by simp; omega) (Nat.le_refl _)]

theorem chars_length (l : List UInt8) : (chars l).length ≤ l.length := by
  unfold chars
  generalize l.length = n
  induction n generalizing l with
  | zero => simp [charsN]
  | succ n ih =>
    unfold charsN
    split
    · simp
    · have := ih (l.drop (decodeL l).2)
      simp
      exact this

/-- what '[]rune(s)' holds -/
theorem runesFrom_eq (s : ByteArray) : ∀ (bound i : Nat) (acc : Array Value), s.size - i ≤ bound →
    Conv.runesFrom s bound i acc = acc ++ ((chars (s.data.toList.drop i)).map fun r => Value.int .i32 ((r : Nat) : Int)).toArray
  | 0, i, acc, h => by
    have : s.data.toList.drop i = [] := by
      apply List.drop_eq_nil_of_le
      have : s.data.toList.length = s.size := (Lib.size_eq s).symm
      omega
    rw [this]
    simp [Conv.runesFrom, chars_nil]
  | bound + 1, i, acc, h => by
    unfold Conv.runesFrom
    have hl : s.data.toList.length = s.size := (Lib.size_eq s).symm
    by_cases hi : i < s.size
    · have hne : s.data.toList.drop i ≠ [] := by
        intro e
        have := congrArg List.length e
        rw [List.length_drop, List.length_nil] at this
        omega
      have hw := decode_width_pos s i hi
      rw [if_pos hi, chars_step _ hne, decodeL_drop]
      have ih := runesFrom_eq s bound (i + (Utf8.decode s i).2) (acc.push (.int .i32 (Int.ofNat (Utf8.decode s i).1))) (by omega)
      simp only [ih, List.drop_drop]
      simp
    · rw [if_neg hi]
      have : s.data.toList.drop i = [] := List.drop_eq_nil_of_le (by omega)
      rw [this]
      simp [chars_nil]
theorem runes_chars (s : ByteArray) : Conv.runesFrom s s.size 0 #[] = ((chars s.data.toList).map fun r => Value.int .i32 ((r : Nat) : Int)).toArray := by
  rw [runesFrom_eq s s.size 0 #[] (by omega)]
  simp
end Go.Ftx
