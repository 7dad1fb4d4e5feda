/- What the bound of an 'Upto' statement gives: the lengths of strings and slices. -/
import Derived.Test.YtgljpgnmlpglnaaDoorRows
namespace Go.Proofs.YtgljpgnmlpglnaaDoor

theorem bulk_one {H : Type} (d : DataW H) : 1 ≤ Rows.uptoBulk d := by
  cases d with
  | lit l => cases l <;> simp [Rows.uptoBulk]
  | nil => simp [Rows.uptoBulk]
  | ptr d => simp [Rows.uptoBulk]
  | slice elems spare => simp [Rows.uptoBulk]
  | agg parts => simp [Rows.uptoBulk]
  | iface t d => simp [Rows.uptoBulk]
  | map entries => simp [Rows.uptoBulk]
  | held h => simp [Rows.uptoBulk]
theorem bulk_length {H : Type} (l : List (DataW H)) : l.length ≤ Rows.uptoBulkAll l := by
  induction l with
  | nil => simp [Rows.uptoBulkAll]
  | cons x r ih => have := bulk_one x; simp only [Rows.uptoBulkAll, List.length_cons]; omega
theorem bulk_bound {H : Type} {l : List (DataW H)} (hk : Rows.uptoSmall H l = true) : Rows.uptoBulkAll l ≤ 1048576 := of_decide_eq_true hk
theorem bulk_part {H : Type} {d : DataW H} {l : List (DataW H)} (h : d ∈ l) : Rows.uptoBulk d ≤ Rows.uptoBulkAll l := by
  induction l with
  | nil => cases h
  | cons x r ih =>
    simp only [Rows.uptoBulkAll]
    cases List.mem_cons.1 h with
    | inl e => subst e; omega
    | inr e => have := ih e; omega
theorem bulk_string {H : Type} {s : ByteArray} {l : List (DataW H)} (hk : Rows.uptoSmall H l = true) (h : DataW.lit (.string s.data.toList) ∈ l) : s.size ≤ 1048576 := by
  have h1 := bulk_bound hk
  have h2 := bulk_part h
  have h3 : Rows.uptoBulk (DataW.lit (H := H) (.string s.data.toList)) = s.data.toList.length + 1 := by simp [Rows.uptoBulk]
  have h4 : s.data.toList.length = s.size := by rw [Array.length_toList]; rfl
  omega
theorem bulk_slice {H : Type} {n : Nat} {d : DataW H} {l : List (DataW H)} (hk : Rows.uptoSmall H l = true) (h : d ∈ l) (hd : n = 0 ∨ ∃ elems spare, d = .slice elems spare ∧ elems.length = n) : n ≤ 1048576 := by
  have h1 := bulk_bound hk
  have h2 := bulk_part h
  rcases hd with rfl | ⟨elems, spare, rfl, rfl⟩
  · omega
  · have h3 := bulk_length elems
    simp only [Rows.uptoBulk] at h2
    omega
end Go.Proofs.YtgljpgnmlpglnaaDoor
