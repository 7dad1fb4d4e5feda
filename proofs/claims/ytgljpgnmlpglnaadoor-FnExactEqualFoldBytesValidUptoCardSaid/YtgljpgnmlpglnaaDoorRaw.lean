/- spec.raw and spec.halves: whether an input stands for itself, and its two halves as strings. -/
import Derived.Test.YtgljpgnmlpglnaaDoorPick
import Derived.Laws.IdiomStrings
namespace Go.Proofs.YtgljpgnmlpglnaaDoor
open Go.RowKit Go.Lib

def RawPost (w : World) (len : Nat) (e : Ending) (w' : World) : Prop := ∃ b : Bool, (b = true → 2 ≤ len) ∧ e = .returned (.bool b) ∧ w = w'
set_option maxHeartbeats 1000000 in
theorem raw_any (w : World) (a : Option Addr) (len cap : Nat) (hC : CodeAt w (.slice a len cap)) :
    Calls Tryd.prog 23 #[.slice a len cap] w (RawPost w len) := by
  by_cases h1 : len ≤ 1
  · have h1z : ¬ (1 : Int) < (len : Int) := by omega
    go_enter Tryd.func23, Tryd.ntmps23
    go_wp2
    go_ret
    exact ⟨false, (fun h => by cases h), rfl, rfl⟩
  · rcases hC with ⟨a', cap', e⟩ | ⟨b, off, len', cap', e, hl, _, _, hc⟩
    · cases e
      omega
    · cases e
      obtain ⟨c, hc1, hc2⟩ := hc 0 (by omega)
      rw [Nat.add_zero] at hc2
      have h1z : (1 : Int) < (len : Int) := by omega
      have h0z : (0 : Int) < (len : Int) := by omega
      clear hc
      go_enter Tryd.func23, Tryd.ntmps23
      go_wp2
      go_ret
      exact ⟨_, fun _ => by omega, rfl, rfl⟩

def PairPost (w : World) (n : Nat) (e : Ending) (w' : World) : Prop := ∃ s t : ByteArray, s.size ≤ n ∧ t.size ≤ n ∧ e = .returned (.tuple #[.string s, .string t]) ∧ w.grownBy w' none

/-- the bytes of an input as a list -/
theorem code_list {w : World} {b off len : Nat} (h : ∀ i, i < len → ∃ c : Nat, c < 256 ∧ w.cell? ⟨b, off + i, none⟩ = some (.int .u8 c)) :
    ∃ l : List UInt8, l.length = len ∧ ∀ i (hi : i < l.length), w.cell? ⟨b, off + i, none⟩ = some (.int .u8 (l[i].toNat : Int)) := by
  induction len with
  | zero => exact ⟨[], rfl, fun i hi => absurd hi (by simp)⟩
  | succ n ih =>
    obtain ⟨l, hl, hc⟩ := ih (fun i hi => h i (by omega))
    obtain ⟨c, c1, c2⟩ := h n (by omega)
    refine ⟨l ++ [UInt8.ofNat c], by simp [hl], fun i hi => ?_⟩
    by_cases hin : i < l.length
    · rw [List.getElem_append_left hin]
      exact hc i hin
    · simp only [List.length_append, List.length_singleton] at hi
      obtain rfl : i = n := by omega
      rw [c2, List.getElem_append_right (by omega)]
      simp [hl]
      omega
/-- 'string(b)' of a part of the input -/
theorem part_string {w : World} {b off len : Nat} (l : List UInt8) (hl : l.length = len) (hc : ∀ i (hi : i < l.length), w.cell? ⟨b, off + i, none⟩ = some (.int .u8 (l[i].toNat : Int))) (k n cap : Nat) (hkn : k + n ≤ len) :
    (convert 22 9 (.slice (some ⟨b, off + k, none⟩) n cap)).run Tryd.prog w = .ok (.string ⟨((l.drop k).take n).toArray⟩) w := by
  have h := run_convert_bytes_back (P := Tryd.prog) w 22 9 5 ⟨b, off + k, none⟩ cap ((l.drop k).take n) Tryd.underlying22 Tryd.underlying5 Tryd.underlying9 (fun j hj => by
    have hj' : j < n ∧ k + j < l.length := by
      rw [List.length_take, List.length_drop] at hj
      omega
    rw [Addr.add_lit, Nat.add_assoc, hc (k + j) hj'.2]
    simp)
  have e : ((l.drop k).take n).length = n := by rw [List.length_take, List.length_drop]; omega
  rw [e] at h
  exact h
theorem empty_string (w : World) (a : Addr) (cap : Nat) : (convert 22 9 (.slice (some a) 0 cap)).run Tryd.prog w = .ok (.string ⟨#[]⟩) w :=
  run_convert_bytes_back (P := Tryd.prog) w 22 9 5 a cap [] Tryd.underlying22 Tryd.underlying5 Tryd.underlying9 (fun j hj => absurd hj (by simp))

set_option maxHeartbeats 4000000 in
theorem halves_any (w : World) (b off len cap : Nat) (h2 : 2 ≤ len) (hlc : len ≤ cap) (hl : len ≤ 1048576) (hcap : cap ≤ 9223372036854775807) (hc : ∀ i, i < len → ∃ c : Nat, c < 256 ∧ w.cell? ⟨b, off + i, none⟩ = some (.int .u8 c)) :
    Calls Tryd.prog 24 #[.slice (some ⟨b, off, none⟩) len cap] w (PairPost w len) := by
  obtain ⟨c, hc1, hc2⟩ := hc 1 (by omega)
  obtain ⟨l, hll, hlc2⟩ := code_list hc
  have hmul : c * (len - 2) / 255 ≤ len - 2 := by
    rw [Nat.div_le_iff_le_mul_add_pred (by omega)]
    have : c * (len - 2) ≤ 255 * (len - 2) := Nat.mul_le_mul_right _ (by omega)
    omega
  obtain ⟨m, hm⟩ : ∃ m : Nat, c * (len - 2) = m := ⟨_, rfl⟩
  have hmz : (c : Int) * ((len : Int) - 2) = (m : Int) := by
    rw [← hm]
    rw [Int.natCast_mul, Int.natCast_sub h2]
    rfl
  have hmb : m ≤ 267386880 := by
    rw [← hm]
    exact Nat.le_trans (Nat.mul_le_mul (show c ≤ 255 by omega) (show len - 2 ≤ 1048576 by omega)) (by omega)
  rw [hm] at hmul
  obtain ⟨n, hn⟩ : ∃ n : Nat, m / 255 = n := ⟨_, rfl⟩
  have hnz : (m : Int) / 255 = (n : Int) := by omega
  rw [hn] at hmul
  have i1 : (1 : Int) < (len : Int) := by omega
  obtain ⟨k, hk⟩ : ∃ k : Nat, 2 + n = k := ⟨_, rfl⟩
  have hk2 : 2 ≤ k := by omega
  have hkl : k ≤ len := by omega
  have P1 := fun q : Nat => part_string (w := w.drewN q) l hll hlc2 2 (k - 2) (cap - 2) (by omega)
  have P2 := fun q : Nat => part_string (w := w.drewN q) l hll hlc2 k (len - k) (cap - k) (by omega)
  have E0 := fun q : Nat => empty_string (w.drewN q) ⟨b, off, none⟩
  have ek : IntKind.i64.wrap (2 + (n : Int)) = (k : Int) := by rw [IntWalk.i64_in _ (by omega)]; omega
  have z1 : (2 : Int) ≤ (k : Int) := by omega
  have z2 : (k : Int) ≤ (cap : Int) := by omega
  have z3 : (k : Int) ≤ (len : Int) := by omega
  have z4 : (len : Int) ≤ (cap : Int) := by omega
  have s1 : ((l.drop 2).take (k - 2)).length ≤ len := by rw [List.length_take, List.length_drop]; omega
  have s2 : ((l.drop k).take (len - k)).length ≤ len := by rw [List.length_take, List.length_drop]; omega
  generalize (l.drop 2).take (k - 2) = l1 at *
  generalize (l.drop k).take (len - k) = l2 at *
  clear hm hn hc hlc2 hk hll
  go_enter Tryd.func24, Tryd.ntmps24
  go_wp2
  by_cases hcap2 : cap = 2
  · obtain rfl : len = 2 := by omega
    obtain rfl : k = 2 := by omega
    subst hcap2
    go_quiet (fail)
    go_wp2
    go_ret2
    exact ⟨_, _, by simp [ByteArray.size], by simp [ByteArray.size], rfl, gdrewN (grefl w none) _⟩
  · by_cases hkc : k = cap
    · subst hkc
      obtain rfl : len = k := by omega
      have hz : len - len = 0 := by omega
      go_quiet (fail)
      go_wp2
      go_ret2
      exact ⟨_, _, by simpa [ByteArray.size] using s1, by simp [ByteArray.size], rfl, gdrewN (grefl w none) _⟩
    · go_quiet (fail)
      go_wp2
      go_ret2
      exact ⟨_, _, by simpa [ByteArray.size] using s1, by simpa [ByteArray.size] using s2, rfl, gdrewN (grefl w none) _⟩
end Go.Proofs.YtgljpgnmlpglnaaDoor
