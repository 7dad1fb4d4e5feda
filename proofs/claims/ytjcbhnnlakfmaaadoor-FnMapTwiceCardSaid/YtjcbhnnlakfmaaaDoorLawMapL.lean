/- The law FnMapLen: a mapped string has a character for each one that is not dropped. Written by gen_lawmaplen.py. -/
import Derived.Test.YtjcbhnnlakfmaaaDoorLawMapD
namespace Go.Ftx
open Go.Lib
theorem mapR_chars {T : List (Int × Int)} {keep : Bool} {rest : Int} (hp : properT T keep rest = true) (l : List UInt8) : ∀ z ∈ mapR (imgT T keep rest) (chars l), isChar z := by
  intro z hz
  unfold mapR at hz
  rw [List.mem_filter] at hz
  obtain ⟨hz, h0⟩ := hz
  obtain ⟨r, hr, rfl⟩ := List.mem_map.1 hz
  exact proper_img T keep rest r hp (chars_char l r hr) (of_decide_eq_true h0)
theorem chars_mapped {T : List (Int × Int)} {keep : Bool} {rest : Int} (hp : properT T keep rest = true) (l : List UInt8) : chars (mapD (imgT T keep rest) l) = (mapR (imgT T keep rest) (chars l)).map Int.toNat := by
  rw [mapD_chars, chars_textOf _ (mapR_chars hp l)]
theorem mapR_take (f : Int → Int) (rs : List Nat) (k : Nat) (h : k < rs.length) : (mapR f (rs.take (k + 1))).length = (mapR f (rs.take k)).length + if 0 ≤ f ((rs.getD k 0 : Nat) : Int) then 1 else 0 := by
  rw [List.take_add_one, List.getElem?_eq_getElem h, show rs.getD k 0 = rs[k] by simp [List.getD, h], mapR_append, List.length_append]
  congr 1
  unfold mapR
  simp only [Option.toList_some, List.map_cons, List.map_nil]
  split
  · rename_i h0
    rw [List.filter_cons_of_pos (by simpa using h0)]
    rfl
  · rename_i h0
    rw [List.filter_cons_of_neg (by simpa using h0)]
    rfl
theorem mapR_le (f : Int → Int) (rs : List Nat) : (mapR f rs).length ≤ rs.length := by
  unfold mapR
  exact Nat.le_trans (List.length_filter_le _ _) (by simp)
end Go.Ftx
namespace Go.Proofs.YtjcbhnnlakfmaaaDoor
open Go.RowKit Go.Lib Go.Ftx


end Go.Proofs.YtjcbhnnlakfmaaaDoor
