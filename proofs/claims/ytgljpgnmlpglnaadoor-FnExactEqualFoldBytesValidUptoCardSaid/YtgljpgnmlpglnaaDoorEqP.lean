/- Plain facts on equality under folding of texts. -/
import Derived.Test.YtgljpgnmlpglnaaDoorKinL
import Derived.Test.YtgljpgnmlpglnaaDoorText
namespace Go.Ftx
open Go.Lib

theorem kinL_refl : ∀ l, kinL l l = true
  | [] => rfl
  | a :: l => by rw [kinL, kinB_refl, kinL_refl l]; rfl
theorem kinL_symm : ∀ l m, kinL l m = kinL m l
  | [], [] => rfl
  | [], _ :: _ => rfl
  | _ :: _, [] => rfl
  | a :: l, b :: m => by rw [kinL, kinL, kinB_symm, kinL_symm l m]
theorem kinL_trans : ∀ l m n, kinL l m = true → kinL m n = true → kinL l n = true
  | [], [], n, _, h => h
  | [], _ :: _, _, h, _ => by cases h
  | _ :: _, [], _, h, _ => by cases h
  | a :: l, b :: m, [], _, h => by cases h
  | a :: l, b :: m, c :: n, h, h' => by
    rw [kinL, Bool.and_eq_true] at h h' ⊢
    exact ⟨kinB_trans h.1 h'.1, kinL_trans l m n h.2 h'.2⟩
theorem kinL_congr {l m : List Nat} (h : kinL l m = true) (n : List Nat) : kinL n l = kinL n m := by
  rw [Bool.eq_iff_iff]
  exact ⟨fun k => kinL_trans _ _ _ k h, fun k => kinL_trans _ _ _ k (by rw [kinL_symm]; exact h)⟩
theorem kinL_length : ∀ l m, kinL l m = true → l.length = m.length
  | [], [], _ => rfl
  | [], _ :: _, h => by cases h
  | _ :: _, [], h => by cases h
  | a :: l, b :: m, h => by
    rw [kinL, Bool.and_eq_true] at h
    simp [kinL_length l m h.2]
theorem kinL_append : ∀ l m l' m', l.length = m.length → kinL (l ++ l') (m ++ m') = (kinL l m && kinL l' m')
  | [], [], l', m', _ => by simp [kinL]
  | [], _ :: _, _, _, h => by simp at h
  | _ :: _, [], _, _, h => by simp at h
  | a :: l, b :: m, l', m', h => by
    rw [List.cons_append, List.cons_append, kinL, kinL, kinL_append l m l' m' (by simpa using h), Bool.and_assoc]
theorem eqF_refl (l : List UInt8) : eqF l l = true := kinL_refl _
theorem eqF_symm (l m : List UInt8) : eqF l m = eqF m l := kinL_symm _ _

/-! characters of one byte -/
theorem lowB_eq (x y : UInt8) (hx : x.toNat < 128) (hy : y.toNat < 128) : lowB x = lowB y ↔ kinB x.toNat y.toNat = true := by
  rw [kinB_letters _ _ hx hy, decide_eq_true_iff]
  have h1 := lowB_val x
  have h2 := lowB_val y
  unfold lowerZ at h1 h2
  constructor
  · intro h
    rw [h] at h1
    split at h1 <;> split at h2 <;> omega
  · intro h
    apply UInt8.toNat_inj.1
    split at h1 <;> split at h2 <;> omega
theorem eqF_ascii : ∀ l m : List UInt8, asciiB l = true → asciiB m = true → eqF l m = decide (l.map lowB = m.map lowB)
  | [], [], _, _ => rfl
  | [], y :: m, _, _ => by rw [eqF_end _ _ (.inl rfl)]; simp
  | x :: l, [], _, _ => by rw [eqF_end _ _ (.inr rfl)]; simp
  | x :: l, y :: m, h1, h2 => by
    simp only [asciiB, List.all_cons, Bool.and_eq_true, decide_eq_true_eq] at h1 h2
    rw [eqF_byte _ _ _ _ h1.1 h2.1, eqF_ascii l m h1.2 h2.2]
    rw [Bool.eq_iff_iff, Bool.and_eq_true, decide_eq_true_iff, decide_eq_true_iff, List.map_cons, List.map_cons, List.cons.injEq, lowB_eq x y h1.1 h2.1]
theorem asciiB_ne {l : List UInt8} (h : asciiB l = false) : l ≠ [] := by
  rintro rfl
  cases h

/-! comparing strings -/
theorem str_ne {s t : ByteArray} (h : s.data.toList ≠ t.data.toList) : (s.toList == t.toList) = false := by
  rw [ByteArray.toList_eq, ByteArray.toList_eq, beq_eq_false_iff_ne]
  exact h
theorem str_eq {s t : ByteArray} (h : s.data.toList = t.data.toList) : (s.toList == t.toList) = true := by
  rw [ByteArray.toList_eq, ByteArray.toList_eq, beq_iff_eq]
  exact h
theorem str_dec (s t : ByteArray) : (s.toList == t.toList) = decide (s.data.toList = t.data.toList) := by
  rw [ByteArray.toList_eq, ByteArray.toList_eq, Bool.eq_iff_iff, beq_iff_eq, decide_eq_true_iff]
theorem data_app (a b : ByteArray) : (a ++ b).data.toList = a.data.toList ++ b.data.toList := by
  cases a; cases b
  simp

/-! valid texts -/
theorem chars_valid_append : ∀ (n : Nat) (l m : List UInt8), l.length ≤ n → validD l = true → chars (l ++ m) = chars l ++ chars m ∧ validD (l ++ m) = validD m := by
  intro n
  induction n with
  | zero =>
    intro l m hn _
    have : l = [] := List.length_eq_zero_iff.1 (by omega)
    subst this
    exact ⟨rfl, rfl⟩
  | succ n ih =>
    intro l m hn hv
    by_cases hl : l = []
    · subst hl; exact ⟨rfl, rfl⟩
    · rw [validD_step l hl] at hv
      split at hv
      · cases hv
      · rename_i hbad
        have hp := decodeL_pos l hl
        have hle := decodeL_le l hl
        have hd : decodeL (l ++ m) = decodeL l := decodeL_append l m hl hbad
        have hne : l ++ m ≠ [] := by simp [hl]
        have hdrop : (l ++ m).drop (decodeL l).2 = l.drop (decodeL l).2 ++ m := List.drop_append_of_le_length hle
        obtain ⟨i1, i2⟩ := ih (l.drop (decodeL l).2) m (by rw [List.length_drop]; omega) hv
        constructor
        · rw [chars_step _ hne, hd, hdrop, i1, chars_step l hl, List.cons_append]
        · rw [validD_step _ hne, hd, if_neg hbad, hdrop, i2]
end Go.Ftx
