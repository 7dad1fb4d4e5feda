/- Laws on EqualFold of strings drawn from an input, the second part. Written by gen_laweq2.py. -/
import Derived.Test.YtdkcdeiejeajhaaDoorLawEq
namespace Go.Proofs.YtdkcdeiejeajhaaDoor
open Go.RowKit Go.Lib Go.Ftx
theorem ascii_is (s : ByteArray) (w : World) (b : Bool) (hs : s.size ≤ 4611686018427387904) (h : asciiB s.data.toList = b) :
    Calls Tryd.prog 9 #[.string s] w fun e w' => e = .returned (.bool b) ∧ w = w' := h ▸ ascii_any s w hs
theorem valid_is (s : ByteArray) (w : World) (b : Bool) (hs : s.size ≤ 9223372036854775807) (hT : EqTabs w) (h : Lib.validD s.data.toList = b) :
    Calls Tryd.prog 15 #[.string s] w (BoolPost w b) := h ▸ valid_any s w hs hT.2
theorem dec_beq (l m : List UInt8) : (decide (l = m) == (l == m)) = true := by
  cases h : (l == m) with
  | true => rw [eq_of_beq h]; simp
  | false => have := ne_of_beq_false h; simp [this]
theorem validD_ne {l : List UInt8} (h : Lib.validD l = false) : l ≠ [] := by
  rintro rfl
  exact absurd h (by decide)
theorem eqF_more (s x : ByteArray) (h : Lib.validD s.data.toList = true) (hx : (chars x.data.toList).length = 1) : eqF s.data.toList (s ++ x).data.toList = false := by
  rw [data_app]
  unfold eqF
  rw [(chars_valid_append _ _ _ (Nat.le_refl _) h).1]
  refine kinL_len _ _ ?_
  rw [List.length_append]
  omega
theorem eqF_ahead (t x : ByteArray) (hx : (chars x.data.toList).length = 1) (h : Lib.validD x.data.toList = true) : eqF (x ++ t).data.toList t.data.toList = false := by
  rw [data_app]
  unfold eqF
  rw [(chars_valid_append _ _ _ (Nat.le_refl _) h).1]
  refine kinL_len _ _ ?_
  rw [List.length_append]
  omega
theorem size_more (s x : ByteArray) (hs : s.size ≤ 1048676) (hx : x.size = 1) : (s ++ x).size ≤ 4611686018427387904 := by rw [ByteArray.size_append]; omega
theorem size_ahead (t x : ByteArray) (hs : t.size ≤ 1048676) (hx : x.size = 1) : (x ++ t).size ≤ 4611686018427387904 := by rw [ByteArray.size_append]; omega
theorem size_two {s t : ByteArray} (hs : s.size ≤ 1048676) (ht : t.size ≤ 1048676) : (s ++ t).size ≤ 9223372036854775807 := by rw [ByteArray.size_append]; omega
theorem size_two' {s t : ByteArray} (hs : s.size ≤ 1048676) (ht : t.size ≤ 1048676) : (s ++ t).size ≤ 4611686018427387904 := by rw [ByteArray.size_append]; omega
theorem eqF_app {s t : ByteArray} (u v : ByteArray) (hs : Lib.validD s.data.toList = true) (ht : Lib.validD t.data.toList = true) :
    eqF (s ++ u).data.toList (t ++ v).data.toList = kinL (chars s.data.toList ++ chars u.data.toList) (chars t.data.toList ++ chars v.data.toList) := by
  rw [data_app, data_app]
  unfold eqF
  rw [(chars_valid_append _ _ _ (Nat.le_refl _) hs).1, (chars_valid_append _ _ _ (Nat.le_refl _) ht).1]
theorem eqF_join_no {s t : ByteArray} (u : ByteArray) (hs : Lib.validD s.data.toList = true) (ht : Lib.validD t.data.toList = true) (h : eqF s.data.toList t.data.toList = false) :
    eqF (s ++ u).data.toList (t ++ u).data.toList = false := by
  rw [eqF_app u u hs ht]
  by_cases hl : (chars s.data.toList).length = (chars t.data.toList).length
  · have h' : kinL (chars s.data.toList) (chars t.data.toList) = false := h
    rw [kinL_append _ _ _ _ hl, h']
    rfl
  · refine kinL_len _ _ ?_
    rw [List.length_append, List.length_append]
    omega
theorem eqF_join {s t : ByteArray} (u v : ByteArray) (hs : Lib.validD s.data.toList = true) (ht : Lib.validD t.data.toList = true) (h : eqF s.data.toList t.data.toList = true) :
    eqF (s ++ u).data.toList (t ++ v).data.toList = eqF u.data.toList v.data.toList := by
  have h' : kinL (chars s.data.toList) (chars t.data.toList) = true := h
  rw [eqF_app u v hs ht, kinL_append _ _ _ _ (kinL_length _ _ h'), h', Bool.true_and]
  rfl
theorem eqF_join2 {u v s t : ByteArray} (hu : Lib.validD u.data.toList = true) (hv : Lib.validD v.data.toList = true) (h : eqF s.data.toList t.data.toList = true) :
    eqF (u ++ s).data.toList (v ++ t).data.toList = eqF u.data.toList v.data.toList := by
  have h' : kinL (chars s.data.toList) (chars t.data.toList) = true := h
  have hl := kinL_length _ _ h'
  rw [eqF_app s t hu hv]
  unfold eqF
  by_cases he : (chars u.data.toList).length = (chars v.data.toList).length
  · rw [kinL_append _ _ _ _ he, h', Bool.and_true]
  · rw [kinL_len _ _ he]
    refine kinL_len _ _ ?_
    rw [List.length_append, List.length_append]
    omega
theorem app_ne (s t : ByteArray) (h : s.data.toList ≠ [] ∨ t.data.toList ≠ []) : ((s ++ t).toList == ([] : List UInt8)) = false := by
  rw [ByteArray.toList_eq, data_app]
  rcases h with h | h
  · cases e : s.data.toList with
    | nil => exact absurd e h
    | cons a l => rfl
  · cases e : t.data.toList with
    | nil => exact absurd e h
    | cons a l => cases s.data.toList <;> rfl




end Go.Proofs.YtdkcdeiejeajhaaDoor
