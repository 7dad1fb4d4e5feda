/- The characters of a text, as the decoder gives them one by one: plain facts. -/
import Derived.Lib.TrimUEq
import Derived.Lib.RuneCount
import Derived.Lib.MapLaws
import Derived.Lib.ValidLaws
import Derived.Lib.TrimAscii
import GoSem.Conv.StringToRunes
namespace Go.Ftx
open Go.Lib

def charsN : Nat → List UInt8 → List Nat
  | 0, _ => []
  | n + 1, l => if l = [] then [] else (decodeL l).1 :: charsN n (l.drop (decodeL l).2)
/-- the characters of a text -/
def chars (l : List UInt8) : List Nat := charsN l.length l

theorem decodeL_pos (l : List UInt8) (h : l ≠ []) : 1 ≤ (decodeL l).2 := by
  have h' : 0 < l.length := List.length_pos_iff.2 h
  exact decode_width_pos ⟨l.toArray⟩ 0 (by show 0 < l.toArray.size; simpa using h')

theorem charsN_fuel : ∀ (n m : Nat) (l : List UInt8), l.length ≤ n → l.length ≤ m → charsN n l = charsN m l
  | 0, m, l, h, _ => by
    have : l = [] := List.length_eq_zero_iff.1 (by omega)
    subst this
    cases m <;> simp [charsN]
  | n + 1, 0, l, _, h => by
    have : l = [] := List.length_eq_zero_iff.1 (by omega)
    subst this
    simp [charsN]
  | n + 1, m + 1, l, h, h' => by
    unfold charsN
    split
    · rfl
    · rename_i hne
      have := decodeL_pos l hne
      rw [charsN_fuel n m _ (by simp; omega) (by simp; omega)]
theorem chars_nil : chars [] = [] := rfl
theorem chars_step (l : List UInt8) (h : l ≠ []) : chars l = (decodeL l).1 :: chars (l.drop (decodeL l).2) := by
  unfold chars
  have hp := decodeL_pos l h
  obtain ⟨n, hn⟩ : ∃ n, l.length = n + 1 := ⟨l.length - 1, by have := List.length_pos_iff.2 h; omega⟩
  rw [hn]
  conv => lhs; unfold charsN
  rw [if_neg h, charsN_fuel n (l.drop (decodeL l).2).length _ (by simp; omega) (Nat.le_refl _)]

theorem chars_length (l : List UInt8) : (chars l).length ≤ l.length := by
  unfold chars
  generalize l.length = n
  induction n generalizing l with
  | zero => simp [charsN]
  | succ n ih =>
    unfold charsN
    split
    · simp
    · have := ih (l.drop (decodeL l).2)
      simp
      exact this

/-- what '[]rune(s)' holds -/
theorem runesFrom_eq (s : ByteArray) : ∀ (bound i : Nat) (acc : Array Value), s.size - i ≤ bound →
    Conv.runesFrom s bound i acc = acc ++ ((chars (s.data.toList.drop i)).map fun r => Value.int .i32 ((r : Nat) : Int)).toArray
  | 0, i, acc, h => by
    have : s.data.toList.drop i = [] := by
      apply List.drop_eq_nil_of_le
      have : s.data.toList.length = s.size := (Lib.size_eq s).symm
      omega
    rw [this]
    simp [Conv.runesFrom, chars_nil]
  | bound + 1, i, acc, h => by
    unfold Conv.runesFrom
    have hl : s.data.toList.length = s.size := (Lib.size_eq s).symm
    by_cases hi : i < s.size
    · have hne : s.data.toList.drop i ≠ [] := by
        intro e
        have := congrArg List.length e
        rw [List.length_drop, List.length_nil] at this
        omega
      have hw := decode_width_pos s i hi
      rw [if_pos hi, chars_step _ hne, decodeL_drop]
      have ih := runesFrom_eq s bound (i + (Utf8.decode s i).2) (acc.push (.int .i32 (Int.ofNat (Utf8.decode s i).1))) (by omega)
      simp only [ih, List.drop_drop]
      simp
    · rw [if_neg hi]
      have : s.data.toList.drop i = [] := List.drop_eq_nil_of_le (by omega)
      rw [this]
      simp [chars_nil]
theorem runes_chars (s : ByteArray) : Conv.runesFrom s s.size 0 #[] = ((chars s.data.toList).map fun r => Value.int .i32 ((r : Nat) : Int)).toArray := by
  rw [runesFrom_eq s s.size 0 #[] (by omega)]
  simp

/-! a character's bytes decide, whatever follows -/
theorem decodeN_one (n b0 b1 b2 b3 : Nat) (h : b0 < 128) : decodeN n b0 b1 b2 b3 = (b0, 1) := by unfold decodeN; rw [if_pos h]
theorem decodeN_two (n b0 b1 b2 b3 : Nat) (h0 : b0 / 32 = 6) (hn : 1 < n) (h1 : b1 / 64 = 2) (hv : 128 ≤ b0 % 32 * 64 + b1 % 64) : decodeN n b0 b1 b2 b3 = (b0 % 32 * 64 + b1 % 64, 2) := by
  unfold decodeN
  rw [if_neg (by omega), if_pos ⟨h0, hn, h1⟩, if_pos hv]
theorem decodeN_three (n b0 b1 b2 b3 : Nat) (h0 : b0 / 16 = 14) (hn : 2 < n) (h1 : b1 / 64 = 2) (h2 : b2 / 64 = 2) (hv : 2048 ≤ b0 % 16 * 4096 + b1 % 64 * 64 + b2 % 64)
    (hs : b0 % 16 * 4096 + b1 % 64 * 64 + b2 % 64 < 55296 ∨ 57344 ≤ b0 % 16 * 4096 + b1 % 64 * 64 + b2 % 64) : decodeN n b0 b1 b2 b3 = (b0 % 16 * 4096 + b1 % 64 * 64 + b2 % 64, 3) := by
  unfold decodeN
  rw [if_neg (by omega), if_neg (by omega), if_pos ⟨h0, ⟨by omega, h1⟩, hn, h2⟩, if_pos ⟨hv, by omega⟩]
theorem decodeN_four (n b0 b1 b2 b3 : Nat) (h0 : b0 / 8 = 30) (hn : 3 < n) (h1 : b1 / 64 = 2) (h2 : b2 / 64 = 2) (h3 : b3 / 64 = 2) (hv : 65536 ≤ b0 % 8 * 262144 + b1 % 64 * 4096 + b2 % 64 * 64 + b3 % 64)
    (hw : b0 % 8 * 262144 + b1 % 64 * 4096 + b2 % 64 * 64 + b3 % 64 ≤ 1114111) : decodeN n b0 b1 b2 b3 = (b0 % 8 * 262144 + b1 % 64 * 4096 + b2 % 64 * 64 + b3 % 64, 4) := by
  unfold decodeN
  rw [if_neg (by omega), if_neg (by omega), if_neg (by omega), if_pos ⟨h0, ⟨by omega, h1⟩, ⟨by omega, h2⟩, hn, h3⟩, if_pos ⟨hv, by omega⟩]
theorem getD_app (l m : List UInt8) (i : Nat) (h : i < l.length) : (l ++ m).getD i 0 = l.getD i 0 := by
  simp [List.getD, List.getElem?_append_left h]
theorem decodeL_append (l m : List UInt8) (hl : l ≠ []) (hv : ¬ ((decodeL l).1 = 65533 ∧ (decodeL l).2 = 1)) : decodeL (l ++ m) = decodeL l := by
  have hp : 0 < l.length := List.length_pos_iff.2 hl
  rw [decodeL_N l] at hv ⊢
  rw [decodeL_N (l ++ m), getD_app l m 0 hp, List.length_append]
  rcases decodeN_shape l.length (l.getD 0 0).toNat (l.getD 1 0).toNat (l.getD 2 0).toNat (l.getD 3 0).toNat with ⟨c, e⟩ | ⟨c1, c2, c3, cv, e⟩ | ⟨c1, c2, c3, c4, cv, cs, e⟩ | ⟨c1, c2, c3, c4, c5, cv, cw, e⟩ | e
  · rw [e, decodeN_one _ _ _ _ _ c]
  · rw [getD_app l m 1 c2, e, decodeN_two _ _ _ _ _ c1 (by omega) c3 cv]
  · rw [getD_app l m 1 (by omega), getD_app l m 2 c2, e, decodeN_three _ _ _ _ _ c1 (by omega) c3 c4 cv cs]
  · rw [getD_app l m 1 (by omega), getD_app l m 2 (by omega), getD_app l m 3 c2, e, decodeN_four _ _ _ _ _ c1 (by omega) c3 c4 c5 cv cw]
  · rw [e] at hv
    exact absurd ⟨rfl, rfl⟩ hv
/-- a character: a code point that is no surrogate -/
def isChar (r : Int) : Prop := 0 ≤ r ∧ (r < 55296 ∨ 57344 ≤ r) ∧ r ≤ 1114111
theorem toByteN (z : Int) (h0 : 0 ≤ z) (h1 : z < 256) : (z.toNat.toUInt8.toNat : Int) = z := by
  simp
  omega
theorem decode_encode (r : Int) (h : isChar r) (m : List UInt8) : decodeL (encodeRune r ++ m) = (r.toNat, (encodeRune r).length) := by
  obtain ⟨h0, h1, h2⟩ := h
  rw [decodeL_N]
  unfold encodeRune
  by_cases a : r ≤ 127
  · rw [encodeRuneZ_one h0 a]
    have e0 := toByteN r h0 (by omega)
    simp only [List.map_cons, List.map_nil, List.cons_append, List.nil_append, List.getD_cons_zero, List.length_cons, List.length_nil]
    rw [decodeN_one _ _ _ _ _ (by omega)]
    congr 1
    omega
  · by_cases b : r ≤ 2047
    · rw [encodeRuneZ_two (by omega) b]
      have e0 := toByteN (192 + r / 64) (by omega) (by omega)
      have e1 := toByteN (128 + r % 64) (by omega) (by omega)
      simp only [List.map_cons, List.map_nil, List.cons_append, List.nil_append, List.getD_cons_zero, List.getD_cons_succ, List.length_cons, List.length_nil]
      rw [decodeN_two _ _ _ _ _ (by omega) (by omega) (by omega) (by omega)]
      congr 1
      omega
    · by_cases c : r ≤ 65535
      · rw [encodeRuneZ_three (by omega)]
        have e0 := toByteN (224 + r / 4096) (by omega) (by omega)
        have e1 := toByteN (128 + r / 64 % 64) (by omega) (by omega)
        have e2 := toByteN (128 + r % 64) (by omega) (by omega)
        simp only [List.map_cons, List.map_nil, List.cons_append, List.nil_append, List.getD_cons_zero, List.getD_cons_succ, List.length_cons, List.length_nil]
        rw [decodeN_three _ _ _ _ _ (by omega) (by omega) (by omega) (by omega) (by omega) (by omega)]
        congr 1
        omega
      · rw [encodeRuneZ_four (by omega) h2]
        have e0 := toByteN (240 + r / 262144) (by omega) (by omega)
        have e1 := toByteN (128 + r / 4096 % 64) (by omega) (by omega)
        have e2 := toByteN (128 + r / 64 % 64) (by omega) (by omega)
        have e3 := toByteN (128 + r % 64) (by omega) (by omega)
        simp only [List.map_cons, List.map_nil, List.cons_append, List.nil_append, List.getD_cons_zero, List.getD_cons_succ, List.length_cons, List.length_nil]
        rw [decodeN_four _ _ _ _ _ (by omega) (by omega) (by omega) (by omega) (by omega) (by omega) (by omega)]
        congr 1
        omega
theorem encodeRune_ne (r : Int) : encodeRune r ≠ [] := by
  have := (encodeRuneZ_length r).1
  intro h
  have := congrArg List.length h
  rw [encodeRune, List.length_map, List.length_nil] at this
  omega
theorem encodeRune_length (r : Int) : 1 ≤ (encodeRune r).length ∧ (encodeRune r).length ≤ 4 := by
  have := encodeRuneZ_length r
  unfold encodeRune
  rw [List.length_map]
  exact this
/-- what is decoded is a character -/
theorem decodeL_char (l : List UInt8) (hl : l ≠ []) : isChar ((decodeL l).1 : Int) := by
  have hp : 0 < l.length := List.length_pos_iff.2 hl
  rw [decodeL_N l]
  have k0 := (l.getD 0 0).toNat_lt
  have k1 := (l.getD 1 0).toNat_lt
  have k2 := (l.getD 2 0).toNat_lt
  have k3 := (l.getD 3 0).toNat_lt
  unfold isChar
  rcases decodeN_shape l.length (l.getD 0 0).toNat (l.getD 1 0).toNat (l.getD 2 0).toNat (l.getD 3 0).toNat with ⟨c, e⟩ | ⟨c1, c2, c3, cv, e⟩ | ⟨c1, c2, c3, c4, cv, cs, e⟩ | ⟨c1, c2, c3, c4, c5, cv, cw, e⟩ | e
  all_goals (rw [e]; dsimp only; omega)
theorem chars_char (l : List UInt8) : ∀ r ∈ chars l, isChar (r : Int) := by
  unfold chars
  generalize l.length = n
  induction n generalizing l with
  | zero => intro r hr; simp [charsN] at hr
  | succ n ih =>
    intro r hr
    unfold charsN at hr
    split at hr
    · simp at hr
    · rename_i hne
      rcases List.mem_cons.1 hr with rfl | hr
      · exact decodeL_char l hne
      · exact ih _ r hr
/-- the text of a list of characters -/
def textOf (rs : List Int) : List UInt8 := rs.flatMap encodeRune
theorem chars_text : ∀ (rs : List Int) (m : List UInt8), (∀ r ∈ rs, isChar r) → chars (textOf rs ++ m) = rs.map Int.toNat ++ chars m
  | [], m, _ => rfl
  | r :: rs, m, h => by
    have hr := h r (by simp)
    have ih := chars_text rs m (fun x hx => h x (by simp [hx]))
    show chars (encodeRune r ++ textOf rs ++ m) = _
    rw [List.append_assoc, chars_step _ (by simp [encodeRune_ne]), decode_encode r hr, List.drop_left, ih]
    rfl
theorem chars_textOf (rs : List Int) (h : ∀ r ∈ rs, isChar r) : chars (textOf rs) = rs.map Int.toNat := by
  have := chars_text rs [] h
  rw [List.append_nil, chars_nil, List.append_nil] at this
  exact this
theorem valid_text : ∀ (rs : List Int) (m : List UInt8), (∀ r ∈ rs, isChar r) → validD (textOf rs ++ m) = validD m
  | [], m, _ => rfl
  | r :: rs, m, h => by
    have hr := h r (by simp)
    have ih := valid_text rs m (fun x hx => h x (by simp [hx]))
    show validD (encodeRune r ++ textOf rs ++ m) = _
    rw [List.append_assoc, validD_step _ (by simp [encodeRune_ne]), decode_encode r hr, List.drop_left, ih, if_neg]
    rintro ⟨e1, e2⟩
    dsimp only at e1 e2
    obtain ⟨h0, _, _⟩ := hr
    have : r = 65533 := by omega
    rw [this] at e2
    revert e2
    decide
/-- a valid text is the text of its characters -/
theorem text_chars : ∀ (n : Nat) (l : List UInt8), l.length ≤ n → validD l = true → textOf ((chars l).map fun (r : Nat) => (r : Int)) = l := by
  intro n
  induction n with
  | zero =>
    intro l hn _
    have : l = [] := List.length_eq_zero_iff.1 (by omega)
    subst this
    rfl
  | succ n ih =>
    intro l hn hv
    by_cases hl : l = []
    · subst hl; rfl
    · rw [validD_step l hl] at hv
      split at hv
      · cases hv
      · rename_i hbad
        have hp := decodeL_pos l hl
        rw [chars_step l hl, List.map_cons]
        show encodeRune _ ++ textOf _ = l
        rw [ih (l.drop (decodeL l).2) (by rw [List.length_drop]; omega) hv, encode_decode l hl hbad, List.take_append_drop]
end Go.Ftx
