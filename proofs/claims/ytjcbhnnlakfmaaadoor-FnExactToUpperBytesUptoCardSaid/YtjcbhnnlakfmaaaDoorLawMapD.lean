/- Laws on Map of drawn tables and texts: for every input the call returns true, and nothing that was there changes. Written by gen_lawmapd.py. -/
import Derived.Test.YtjcbhnnlakfmaaaDoorLawMap
import Derived.Test.YtjcbhnnlakfmaaaDoorDrawMap
import Derived.Test.YtjcbhnnlakfmaaaDoorValidP
namespace Go.Ftx
open Go.Lib
theorem data_appM (a b : ByteArray) : (a ++ b).data.toList = a.data.toList ++ b.data.toList := by
  rw [ByteArray.data_append, Array.toList_append]
theorem keep_id (l : List UInt8) (h : validD l = true) : mapD (imgT [] true 0) l = l := by
  rw [mapD_chars, mapR_all (fun r _ => by simp [imgT])]
  have e : ((chars l).map fun (r : Nat) => imgT [] true 0 (r : Int)) = (chars l).map fun (r : Nat) => (r : Int) := by simp [imgT]
  rw [e]
  exact text_chars _ l (Nat.le_refl _) h
theorem drop_all (l : List UInt8) : mapD (imgT [] false (-1)) l = [] := by
  rw [mapD_chars]
  have e : mapR (imgT [] false (-1)) (chars l) = [] := by
    unfold mapR
    rw [List.filter_eq_nil_iff]
    intro z hz
    obtain ⟨r, _, rfl⟩ := List.mem_map.1 hz
    simp [imgT]
  rw [e]
  rfl
theorem valid_app {a b : ByteArray} (ha : validD a.data.toList = true) (hb : validD b.data.toList = true) : validD (a ++ b).data.toList = true := by
  rw [data_appM, (chars_valid_appendP _ _ _ (Nat.le_refl _) ha).2]
  exact hb
theorem join_outM {f : Int → Int} {s t o u : ByteArray} (hs : validD s.data.toList = true) (ho : mapD f s.data.toList = o.data.toList) (hu : mapD f t.data.toList = u.data.toList) : mapD f (s ++ t).data.toList = (o ++ u).data.toList := by
  rw [data_appM, data_appM, mapD_chars, (chars_valid_appendP _ _ _ (Nat.le_refl _) hs).1, mapR_append, textOf_append, ← mapD_chars, ← mapD_chars, ho, hu]
theorem textOf_len5 : ∀ zs : List Int, (textOf zs).length ≤ 4 * zs.length
  | [] => by simp [textOf]
  | z :: zs => by
    have h := textOf_len5 zs
    have h1 := (encodeRune_length z).2
    show (encodeRune z ++ textOf zs).length ≤ _
    rw [List.length_append, List.length_cons]
    omega
theorem out_sizeM (f : Int → Int) {s o : ByteArray} (h : mapD f s.data.toList = o.data.toList) : o.size ≤ 4 * s.size := by
  have h1 := textOf_len5 (mapR f (chars s.data.toList))
  have h2 : (mapR f (chars s.data.toList)).length ≤ (chars s.data.toList).length := by
    unfold mapR
    exact Nat.le_trans (List.length_filter_le _ _) (by simp)
  have h3 := chars_length s.data.toList
  rw [← mapD_chars, h, ← Lib.size_eq] at h1
  rw [← Lib.size_eq] at h3
  omega
theorem size_appM {s t : ByteArray} {a b : Nat} (hs : s.size ≤ a) (ht : t.size ≤ b) : (s ++ t).size ≤ a + b := by rw [ByteArray.size_append]; omega
theorem str_notM {s : ByteArray} (h : s.data.toList ≠ []) : (s.toList == ([] : List UInt8)) = false := by
  rw [ByteArray.toList_eq]
  cases e : s.data.toList with
  | nil => exact absurd e h
  | cons a l => rfl
theorem validD_notM {l : List UInt8} (h : Lib.validD l = false) : l ≠ [] := by
  rintro rfl
  exact absurd h (by decide)
end Go.Ftx
namespace Go.Proofs.YtjcbhnnlakfmaaaDoor
open Go.RowKit Go.Lib Go.Ftx
theorem mapped_is (v : Value) (T : List (Int × Int)) (keep : Bool) (rest : Int) (s o : ByteArray) (w : World) (hT : RulesL w v T) (hn : T.length ≤ 8000000) (hok : okT T) (hr : -2147483648 ≤ rest ∧ rest ≤ 2147483647) (hs : s.size < 35184372088832) (hU : Utf8T w) (ho : mapD (imgT T keep rest) s.data.toList = o.data.toList) :
    Calls Tryd.prog 15 #[v, .bool keep, .int .i32 rest, .string s] w (fun e w' => e = .returned (.string o) ∧ w.grownBy w' none) := by
  have h := mapped_any v T keep rest s w hT hn hok hr.1 hr.2 hs hU
  rw [ho] at h
  exact h
theorem okT_nil : okT [] := fun x hx => absurd hx (by simp)



end Go.Proofs.YtjcbhnnlakfmaaaDoor
