/- To map characters to equivalent ones keeps a text equal under folding (plain). Written by gen_lawmapf.py. -/
import Derived.Test.YtjcbhnnlakfmaaaDoorTabW
import Derived.Test.YtjcbhnnlakfmaaaDoorEqP
import Derived.Test.YtjcbhnnlakfmaaaDoorPlainC
namespace Go.Ftx
open Go.Lib
theorem foldU_char {r : Int} (h : isChar r) : isChar (foldU r) := by
  rcases shape r with h1 | ⟨h1, _⟩
  · rw [h1]; exact h
  · have := (okV_iff _).1 h1
    unfold isChar
    omega
/-- a rule to the next equivalent character -/
def foldR (x : Int × Int) : Int × Int := (x.1, foldU x.1)
theorem img_fold (r : Int) : ∀ T : List (Int × Int), imgT (T.map foldR) true 0 r = r ∨ imgT (T.map foldR) true 0 r = foldU r
  | [] => .inl rfl
  | x :: T => by
    show (if x.1 = r then foldU x.1 else imgT (T.map foldR) true 0 r) = r ∨ (if x.1 = r then foldU x.1 else imgT (T.map foldR) true 0 r) = foldU r
    by_cases hx : x.1 = r
    · rw [if_pos hx, hx]; exact .inr rfl
    · rw [if_neg hx]; exact img_fold r T
theorem img_fold_char (T : List (Int × Int)) {r : Int} (h : isChar r) : isChar (imgT (T.map foldR) true 0 r) ∧ kinB (imgT (T.map foldR) true 0 r) r = true := by
  rcases img_fold r T with e | e
  · rw [e]; exact ⟨h, kinB_refl r⟩
  · rw [e]; exact ⟨foldU_char h, kinB_symm' (kinB_fold r)⟩
theorem kin_fold (T : List (Int × Int)) : ∀ rs : List Nat, (∀ r ∈ rs, isChar (r : Int)) → kinL ((rs.map fun (r : Nat) => imgT (T.map foldR) true 0 (r : Int)).map Int.toNat) rs = true
  | [], _ => rfl
  | r :: rs, h => by
    have hc := img_fold_char T (h r (by simp))
    have ih := kin_fold T rs (fun x hx => h x (by simp [hx]))
    show (kinB ((Int.toNat (imgT (T.map foldR) true 0 (r : Int)) : Nat) : Int) (r : Int) && kinL ((rs.map fun (r : Nat) => imgT (T.map foldR) true 0 (r : Int)).map Int.toNat) rs) = true
    rw [Int.toNat_of_nonneg hc.1.1, hc.2, ih]
    rfl
theorem map_fold (T : List (Int × Int)) (l : List UInt8) : eqF (mapD (imgT (T.map foldR) true 0) l) l = true := by
  have hch : ∀ z ∈ (chars l).map (fun (r : Nat) => imgT (T.map foldR) true 0 (r : Int)), isChar z := by
    intro z hz
    obtain ⟨r, hr, rfl⟩ := List.mem_map.1 hz
    exact (img_fold_char T (chars_char l r hr)).1
  unfold eqF
  rw [mapD_chars, mapR_all (fun r hr => (img_fold_char T (chars_char l r hr)).1.1), chars_textOf _ hch]
  exact kin_fold T (chars l) (chars_char l)
theorem okT_fold {T : List (Int × Int)} (hT : okT T) : okT (T.map foldR) := by
  intro x hx
  obtain ⟨y, hy, rfl⟩ := List.mem_map.1 hx
  have h := hT y hy
  refine ⟨h.1, ?_⟩
  show -2147483648 ≤ foldU y.1 ∧ foldU y.1 ≤ 2147483647
  rcases shape y.1 with h1 | ⟨h1, _⟩
  · rw [h1]; exact h.1
  · have := (okV_iff _).1 h1
    omega
end Go.Ftx
namespace Go.Proofs.YtjcbhnnlakfmaaaDoor
open Go.RowKit Go.Lib Go.Ftx
theorem fold_snoc (T : List (Int × Int)) (k : Nat) (h : k < T.length) : ruleCells ((T.take (k + 1)).map foldR) = ruleCells ((T.take k).map foldR) ++ [.int .i32 (T.getD k (0, 0)).1, .int .i32 (foldU (T.getD k (0, 0)).1)] := by
  rw [List.take_add_one, List.getElem?_eq_getElem h, show T.getD k (0, 0) = T[k] by simp [List.getD, h], List.map_append, ruleCells_append]
  rfl
end Go.Proofs.YtjcbhnnlakfmaaaDoor
