/- Equality under simple folding, character by character: plain facts. -/
import Derived.Test.YtgljpgnmlpglnaaDoorKinP
import Derived.Test.YtgljpgnmlpglnaaDoorChars
import Derived.Lib.Strings
import Derived.Lib.FieldsLaws
namespace Go.Ftx
open Go.Lib

theorem itF_back {a : Int} {p : Nat} (h : itF p a = a) : ∀ k, itF (k + p) a = itF k a
  | 0 => by rw [Nat.zero_add]; exact h
  | k + 1 => by
    rw [show k + 1 + p = (k + p) + 1 by omega]
    show foldU (itF (k + p) a) = foldU (itF k a)
    rw [itF_back h k]
theorem period (a : Int) : ∃ p, 1 ≤ p ∧ p ≤ 4 ∧ itF p a = a := by
  rcases shape a with h | ⟨va, h | ⟨vb, ⟨h, hd⟩ | ⟨vc, h, hd⟩⟩⟩
  · exact ⟨1, by omega, by omega, h⟩
  · exact ⟨2, by omega, by omega, h⟩
  · exact ⟨3, by omega, by omega, h⟩
  · exact ⟨4, by omega, by omega, h⟩
/-- within one turn of the orbit -/
theorem itF_small (a : Int) (k : Nat) : ∃ j, j < 4 ∧ itF k a = itF j a := by
  obtain ⟨p, p1, p2, hp⟩ := period a
  induction k using Nat.strongRecOn with
  | _ k ih =>
    by_cases h : k < 4
    · exact ⟨k, h, rfl⟩
    · obtain ⟨j, hj, e⟩ := ih (k - p) (by omega)
      refine ⟨j, hj, ?_⟩
      rw [← e, ← itF_back hp (k - p), show k - p + p = k by omega]
theorem kinB_iff (a b : Int) : kinB a b = true ↔ ∃ k, itF k a = b := by
  constructor
  · intro h
    obtain ⟨k, _, he⟩ := List.any_eq_true.1 h
    exact ⟨k, by simpa using he⟩
  · rintro ⟨k, hk⟩
    obtain ⟨j, hj, e⟩ := itF_small a k
    exact kinB_true (k := j) (by omega) (e ▸ hk)
theorem kinB_four (a b : Int) : kinB a b = true ↔ b = a ∨ b = foldU a ∨ b = foldU (foldU a) ∨ b = foldU (foldU (foldU a)) := by
  rw [kinB_iff]
  constructor
  · rintro ⟨k, hk⟩
    obtain ⟨j, hj, e⟩ := itF_small a k
    rw [e] at hk
    match j, hj with
    | 0, _ => exact .inl hk.symm
    | 1, _ => exact .inr (.inl hk.symm)
    | 2, _ => exact .inr (.inr (.inl hk.symm))
    | 3, _ => exact .inr (.inr (.inr hk.symm))
  · rintro (h | h | h | h)
    · exact ⟨0, h.symm⟩
    · exact ⟨1, h.symm⟩
    · exact ⟨2, h.symm⟩
    · exact ⟨3, h.symm⟩
theorem itF_add (a : Int) (m : Nat) : ∀ n, itF (n + m) a = itF n (itF m a)
  | 0 => by rw [Nat.zero_add]; rfl
  | n + 1 => by
    rw [show n + 1 + m = (n + m) + 1 by omega]
    show foldU (itF (n + m) a) = foldU (itF n (itF m a))
    rw [itF_add a m n]
theorem kinB_refl (a : Int) : kinB a a = true := (kinB_iff a a).2 ⟨0, rfl⟩
theorem kinB_symm' {a b : Int} (h : kinB a b = true) : kinB b a = true := by
  obtain ⟨p, p1, p2, hp⟩ := period a
  obtain ⟨k, hk⟩ := (kinB_iff a b).1 h
  -- itF (k * p) a = a
  have hm : ∀ n, itF (n * p) a = a := fun n => by
    induction n with
    | zero => rw [Nat.zero_mul]; rfl
    | succ n ih => rw [Nat.succ_mul, itF_back hp, ih]
  refine (kinB_iff b a).2 ⟨k * p - k, ?_⟩
  rw [← hk, ← itF_add, show k * p - k + k = k * p by
    have : k ≤ k * p := Nat.le_mul_of_pos_right k (by omega)
    omega]
  exact hm k
theorem kinB_symm (a b : Int) : kinB a b = kinB b a := by
  rw [Bool.eq_iff_iff]
  exact ⟨kinB_symm', kinB_symm'⟩
theorem kinB_trans {a b c : Int} (h : kinB a b = true) (h' : kinB b c = true) : kinB a c = true := by
  obtain ⟨j, hj⟩ := (kinB_iff a b).1 h
  obtain ⟨k, hk⟩ := (kinB_iff b c).1 h'
  exact (kinB_iff a c).2 ⟨k + j, by rw [itF_add, hj, hk]⟩
theorem kinB_fold (a : Int) : kinB a (foldU a) = true := (kinB_iff a _).2 ⟨1, rfl⟩
theorem kinB_congr {a b : Int} (h : kinB a b = true) (c : Int) : kinB a c = kinB b c := by
  rw [Bool.eq_iff_iff]
  exact ⟨fun k => kinB_trans (kinB_symm' h) k, fun k => kinB_trans h k⟩

/-- where the search through an orbit ends -/
theorem orbit_exit {a t : Int} (hat : a < t) (k : Nat) (hb : ∀ j, 1 ≤ j → j ≤ k → itF j a ≠ a ∧ itF j a < t) (he : itF (k + 1) a = a ∨ t ≤ itF (k + 1) a) :
    decide (itF (k + 1) a = t) = kinB a t := by
  rw [Bool.eq_iff_iff, decide_eq_true_iff]
  constructor
  · intro h
    exact (kinB_iff a t).2 ⟨k + 1, h⟩
  · intro h
    have h4 := (kinB_four a t).1 h
    have hk3 : k ≤ 3 := by
      rcases Nat.lt_or_ge 3 k with hk | hk
      · obtain ⟨p, p1, p2, hp⟩ := period a
        exact absurd hp (hb p p1 (by omega)).1
      · exact hk
    have hs := shape a
    unfold Shape at hs
    have b1 : 1 ≤ k → foldU a ≠ a ∧ foldU a < t := fun h => hb 1 (by omega) h
    have b2 : 2 ≤ k → foldU (foldU a) ≠ a ∧ foldU (foldU a) < t := fun h => hb 2 (by omega) h
    have b3 : 3 ≤ k → foldU (foldU (foldU a)) ≠ a ∧ foldU (foldU (foldU a)) < t := fun h => hb 3 (by omega) h
    clear hb h
    have e1 : foldU a = a → foldU (foldU a) = a ∧ foldU (foldU (foldU a)) = a := fun h => by rw [h, h]; exact ⟨rfl, h⟩
    have e2 : foldU (foldU a) = a → foldU (foldU (foldU a)) = foldU a := fun h => by rw [h]
    match k, hk3 with
    | 0, _ =>
      show foldU a = t
      change foldU a = a ∨ t ≤ foldU a at he
      generalize foldU a = b at *
      generalize foldU b = c at *
      generalize foldU c = d at *
      simp only [dn] at hs
      rcases hs with hs | ⟨-, hs | ⟨-, ⟨hs, hd⟩ | ⟨-, hs, hd⟩⟩⟩
      · omega
      · omega
      · repeat' split at hd
        all_goals omega
      · repeat' split at hd
        all_goals omega
    | 1, _ =>
      show foldU (foldU a) = t
      change foldU (foldU a) = a ∨ t ≤ foldU (foldU a) at he
      generalize foldU a = b at *
      generalize foldU b = c at *
      generalize foldU c = d at *
      simp only [dn] at hs
      rcases hs with hs | ⟨-, hs | ⟨-, ⟨hs, hd⟩ | ⟨-, hs, hd⟩⟩⟩
      · omega
      · omega
      · repeat' split at hd
        all_goals omega
      · repeat' split at hd
        all_goals omega
    | 2, _ =>
      show foldU (foldU (foldU a)) = t
      change foldU (foldU (foldU a)) = a ∨ t ≤ foldU (foldU (foldU a)) at he
      generalize foldU a = b at *
      generalize foldU b = c at *
      generalize foldU c = d at *
      simp only [dn] at hs
      rcases hs with hs | ⟨-, hs | ⟨-, ⟨hs, hd⟩ | ⟨-, hs, hd⟩⟩⟩
      · omega
      · omega
      · repeat' split at hd
        all_goals omega
      · repeat' split at hd
        all_goals omega
    | 3, _ =>
      exfalso
      generalize foldU a = b at *
      generalize foldU b = c at *
      generalize foldU c = d at *
      omega

/-! characters of one byte -/
def swapA (n : Nat) : Nat := if 65 ≤ n ∧ n ≤ 90 then n + 32 else if 97 ≤ n ∧ n ≤ 122 then n - 32 else n
def asciiOk (n : Nat) : Bool :=
  let a := foldU n
  let b := foldU a
  let c := foldU b
  (decide (128 ≤ a) || decide (a = n) || decide (a = (swapA n : Int))) && (decide (128 ≤ b) || decide (b = n) || decide (b = (swapA n : Int))) && (decide (128 ≤ c) || decide (c = n) || decide (c = (swapA n : Int))) &&
    (decide (swapA n = n) || decide ((swapA n : Int) = a) || decide ((swapA n : Int) = b) || decide ((swapA n : Int) = c))
theorem ascii_all : ∀ n, n < 128 → asciiOk n = true := by decide +kernel
theorem kinB_ascii (x y : Nat) (hx : x < 128) (hy : y < 128) : kinB x y = decide (y = x ∨ y = swapA x) := by
  rw [Bool.eq_iff_iff, decide_eq_true_iff, kinB_four]
  have h := ascii_all x hx
  unfold asciiOk at h
  simp only [Bool.and_eq_true, Bool.or_eq_true, decide_eq_true_eq] at h
  generalize foldU (x : Int) = a at *
  generalize foldU a = b at *
  generalize foldU b = c at *
  omega

/-! texts -/
def kinL : List Nat → List Nat → Bool
  | [], [] => true
  | a :: as, b :: bs => kinB a b && kinL as bs
  | _, _ => false
/-- equality under folding of two texts -/
def eqF (l m : List UInt8) : Bool := kinL (chars l) (chars m)
theorem eqF_nil : eqF [] [] = true := rfl
theorem eqF_end (l m : List UInt8) (h : l = [] ∨ m = []) : eqF l m = decide (l.length = m.length) := by
  by_cases hl : l = []
  · subst hl
    by_cases hm : m = []
    · subst hm; rfl
    · have : m.length ≠ 0 := fun e => hm (List.length_eq_zero_iff.1 e)
      unfold eqF
      rw [chars_step m hm, chars_nil]
      simp [kinL]; omega
  · rcases h with h | rfl
    · exact absurd h hl
    · have : l.length ≠ 0 := fun e => hl (List.length_eq_zero_iff.1 e)
      unfold eqF
      rw [chars_step l hl, chars_nil]
      simp [kinL]; omega
theorem eqF_step (l m : List UInt8) (hl : l ≠ []) (hm : m ≠ []) : eqF l m = (kinB (decodeL l).1 (decodeL m).1 && eqF (l.drop (decodeL l).2) (m.drop (decodeL m).2)) := by
  unfold eqF
  rw [chars_step l hl, chars_step m hm]
  rfl
theorem eqF_byte (x y : UInt8) (l m : List UInt8) (hx : x.toNat < 128) (hy : y.toNat < 128) : eqF (x :: l) (y :: m) = (kinB x.toNat y.toNat && eqF l m) := by
  rw [eqF_step _ _ (by simp) (by simp), decodeL_ascii x l hx, decodeL_ascii y m hy]
  simp

theorem kinB_letters (x y : Nat) (hx : x < 128) (hy : y < 128) : kinB x y = decide (y = x ∨ (65 ≤ x ∧ x ≤ 90 ∧ y = x + 32) ∨ (65 ≤ y ∧ y ≤ 90 ∧ x = y + 32)) := by
  rw [kinB_ascii x y hx hy, decide_eq_decide]
  unfold swapA
  split
  · omega
  · split <;> omega
/-- one step of the road for characters of one byte -/
theorem eqF_go {S T : List UInt8} {i : Nat} {x y : UInt8} {ANS : Bool} (h : S[i]? = some x ∧ T[i]? = some y) (hx : x.toNat < 128) (hy : y.toNat < 128) (hI : eqF (S.drop i) (T.drop i) = ANS)
    (hk : y.toNat = x.toNat ∨ (65 ≤ x.toNat ∧ x.toNat ≤ 90 ∧ y.toNat = x.toNat + 32) ∨ (65 ≤ y.toNat ∧ y.toNat ≤ 90 ∧ x.toNat = y.toNat + 32)) : eqF (S.drop (i + 1)) (T.drop (i + 1)) = ANS := by
  rw [← hI, Lib.drop_at h.1, Lib.drop_at h.2, eqF_byte _ _ _ _ hx hy, kinB_letters _ _ hx hy, decide_eq_true hk, Bool.true_and]
theorem eqF_no {S T : List UInt8} {i : Nat} {x y : UInt8} {ANS : Bool} (h : S[i]? = some x ∧ T[i]? = some y) (hx : x.toNat < 128) (hy : y.toNat < 128) (hI : eqF (S.drop i) (T.drop i) = ANS)
    (hk : ¬ (y.toNat = x.toNat ∨ (65 ≤ x.toNat ∧ x.toNat ≤ 90 ∧ y.toNat = x.toNat + 32) ∨ (65 ≤ y.toNat ∧ y.toNat ≤ 90 ∧ x.toNat = y.toNat + 32))) : ANS = false := by
  rw [← hI, Lib.drop_at h.1, Lib.drop_at h.2, eqF_byte _ _ _ _ hx hy, kinB_letters _ _ hx hy, decide_eq_false hk, Bool.false_and]
end Go.Ftx
