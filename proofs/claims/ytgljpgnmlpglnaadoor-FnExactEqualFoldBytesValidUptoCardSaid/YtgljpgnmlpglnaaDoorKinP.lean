/- Equivalence under simple folding: plain facts on the orbits of SimpleFold. -/
import Derived.Test.YtgljpgnmlpglnaaDoorPlain
namespace Go.Ftx
open Go.Lib

def itF : Nat → Int → Int
  | 0, a => a
  | n + 1, a => foldU (itF n a)
/-- whether a and b are equivalent: SimpleFold leads from a to b -/
def kinB (a b : Int) : Bool := (List.range 8).any fun k => itF k a == b
theorem kinB_true {a b : Int} {k : Nat} (hk : k < 8) (h : itF k a = b) : kinB a b = true :=
  List.any_eq_true.2 ⟨k, List.mem_range.2 hk, by simpa using h⟩
theorem kinB_false {a b : Int} (h : ∀ k, k < 8 → itF k a ≠ b) : kinB a b = false := by
  rw [← Bool.not_eq_true]
  intro hk
  obtain ⟨k, hm, he⟩ := List.any_eq_true.1 hk
  exact h k (List.mem_range.1 hm) (by simpa using he)

def orbRun (r : Int) : Nat → Int → Nat → Int × Nat
  | 0, x, d => (x, d)
  | n + 1, x, d => if foldU x = r then (r, d + dn x r) else orbRun r n (foldU x) (d + dn x (foldU x))
theorem orb_hit {r : Int} (n : Nat) {x : Int} (d : Nat) (h : foldU x = r) : orbRun r (n + 1) x d = (r, d + dn x r) := by
  rw [orbRun, if_pos h]
theorem orb_miss {r : Int} (n : Nat) {x : Int} (d : Nat) (h : foldU x ≠ r) : orbRun r (n + 1) x d = orbRun r n (foldU x) (d + dn x (foldU x)) := by
  rw [orbRun, if_neg h]
theorem dn_self (r : Int) : dn r r = 1 := by simp [dn]
theorem dn_pair {a b : Int} (h : a ≠ b) : dn a b + dn b a = 1 := by unfold dn; split <;> split <;> omega

theorem orbRun_all (r : Int) : orbRun r 8 r 0 = (r, 1) := by
  by_cases h1 : foldU r = r
  · rw [orb_hit _ _ h1, dn_self]
  · rw [orb_miss _ _ h1]
    by_cases h2 : foldU (foldU r) = r
    · have := dn_pair h1
      rw [orb_hit _ _ h2, show 0 + dn r (foldU r) + dn (foldU r) r = 1 by omega]
    · rw [orb_miss _ _ h2]
      rcases shape r with h | ⟨va, h | ⟨vb, ⟨h, hd⟩ | ⟨vc, h, hd⟩⟩⟩
      · exact absurd h h1
      · exact absurd h h2
      · rw [orb_hit _ _ h, show 0 + dn r (foldU r) + dn (foldU r) (foldU (foldU r)) + dn (foldU (foldU r)) r = 1 by omega]
      · by_cases h3 : foldU (foldU (foldU r)) = r
        · exfalso
          rw [h3] at h
          exact h1 h
        · rw [orb_miss _ _ h3, orb_hit _ _ h,
            show 0 + dn r (foldU r) + dn (foldU r) (foldU (foldU r)) + dn (foldU (foldU r)) (foldU (foldU (foldU r))) + dn (foldU (foldU (foldU r))) r = 1 by omega]

/-- a folded character is a character, and not 0 unless it was -/
theorem foldU_nonneg (r : Int) (h0 : 0 ≤ r) (h1 : r ≤ 1114111) : 0 ≤ foldU r ∧ foldU r ≤ 1114111 := by
  rcases shape r with h | ⟨va, _⟩
  · rw [h]; exact ⟨h0, h1⟩
  · have := (okV_iff _).1 va; omega
theorem foldU_ne_zero (r : Int) (h : r ≠ 0) : foldU r ≠ 0 := by
  rcases shape r with h' | ⟨va, _⟩
  · rw [h']; exact h
  · have := (okV_iff _).1 va; omega

def lowerZ (r : Int) : Int := if 65 ≤ r ∧ r ≤ 90 then r + 32 else r
def upperZ (r : Int) : Int := if 97 ≤ r ∧ r ≤ 122 then r - 32 else r
theorem ascii_fold : ∀ n : Nat, n < 128 →
    (if (n : Int) = 107 then foldU n = 8490 ∧ foldU 8490 = 75 else if (n : Int) = 115 then foldU n = 383 ∧ foldU 383 = 83
     else if lowerZ n ≠ n then foldU n = lowerZ n else foldU n = upperZ n) := by
  decide +kernel
end Go.Ftx
