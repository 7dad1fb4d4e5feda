/- spec.raw and spec.halves: whether an input stands for itself, and its two halves as strings. -/
import Derived.Test.YtdibpklbkcmhiaaDoorPick
import Derived.Laws.IdiomStrings
namespace Go.Proofs.YtdibpklbkcmhiaaDoor
open Go.RowKit Go.Lib

def RawPost (w : World) (len : Nat) (e : Ending) (w' : World) : Prop := ∃ b : Bool, (b = true → 2 ≤ len) ∧ e = .returned (.bool b) ∧ w = w'
set_option maxHeartbeats 1000000 in
theorem raw_any (w : World) (a : Option Addr) (len cap : Nat) (hC : CodeAt w (.slice a len cap)) :
    Calls Tryd.prog 31 #[.slice a len cap] w (RawPost w len) := by
  by_cases h1 : len ≤ 1
  · have h1z : ¬ (1 : Int) < (len : Int) := by omega
    go_enter Tryd.func31, Tryd.ntmps31
    go_wp2
    go_ret
    exact ⟨false, (fun h => by cases h), rfl, rfl⟩
  · rcases hC with ⟨a', cap', e⟩ | ⟨b, off, len', cap', e, hl, _, _, hc⟩
    · cases e
      omega
    · cases e
      obtain ⟨c, hc1, hc2⟩ := hc 0 (by omega)
      rw [Nat.add_zero] at hc2
      have h1z : (1 : Int) < (len : Int) := by omega
      have h0z : (0 : Int) < (len : Int) := by omega
      clear hc
      go_enter Tryd.func31, Tryd.ntmps31
      go_wp2
      go_ret
      exact ⟨_, fun _ => by omega, rfl, rfl⟩

def PairPost (w : World) (n : Nat) (e : Ending) (w' : World) : Prop := ∃ s t : ByteArray, s.size ≤ n ∧ t.size ≤ n ∧ e = .returned (.tuple #[.string s, .string t]) ∧ w.grownBy w' none

/-- the bytes of an input as a list -/
theorem code_list {w : World} {b off len : Nat} (h : ∀ i, i < len → ∃ c : Nat, c < 256 ∧ w.cell? ⟨b, off + i, none⟩ = some (.int .u8 c)) :
    ∃ l : List UInt8, l.length = len ∧ ∀ i (hi : i < l.length), w.cell? ⟨b, off + i, none⟩ = some (.int .u8 (l[i].toNat : Int)) := by
  induction len with
  | zero => exact ⟨[], rfl, fun i hi => absurd hi (by simp)⟩
  | succ n ih =>
    obtain ⟨l, hl, hc⟩ := ih (fun i hi => h i (by omega))
    obtain ⟨c, c1, c2⟩ := h n (by omega)
    refine ⟨l ++ [UInt8.ofNat c], by simp [hl], fun i hi => ?_⟩
    by_cases hin : i < l.length
    · rw [List.getElem_append_left hin]
      exact hc i hin
    · simp only [List.length_append, List.length_singleton] at hi
      obtain rfl : i = n := by omega
      rw [c2, List.getElem_append_right (by omega)]
      simp [hl]
      omega
/-- 'string(b)' of a part of the input -/
theorem part_string {w : World} {b off len : Nat} (l : List UInt8) (hl : l.length = len) (hc : ∀ i (hi : i < l.length), w.cell? ⟨b, off + i, none⟩ = some (.int .u8 (l[i].toNat : Int))) (k n cap : Nat) (hkn : k + n ≤ len) :
    (convert 23 9 (.slice (some ⟨b, off + k, none⟩) n cap)).run Tryd.prog w = .ok (.string ⟨((l.drop k).take n).toArray⟩) w := by
  have h := run_convert_bytes_back (P := Tryd.prog) w 23 9 5 ⟨b, off + k, none⟩ cap ((l.drop k).take n) Tryd.underlying23 Tryd.underlying5 Tryd.underlying9 (fun j hj => by
    have hj' : j < n ∧ k + j < l.length := by
      rw [List.length_take, List.length_drop] at hj
      omega
    rw [Addr.add_lit, Nat.add_assoc, hc (k + j) hj'.2]
    simp)
  have e : ((l.drop k).take n).length = n := by rw [List.length_take, List.length_drop]; omega
  rw [e] at h
  exact h
theorem empty_string (w : World) (a : Addr) (cap : Nat) : (convert 23 9 (.slice (some a) 0 cap)).run Tryd.prog w = .ok (.string ⟨#[]⟩) w :=
  run_convert_bytes_back (P := Tryd.prog) w 23 9 5 a cap [] Tryd.underlying23 Tryd.underlying5 Tryd.underlying9 (fun j hj => absurd hj (by simp))

end Go.Proofs.YtdibpklbkcmhiaaDoor
