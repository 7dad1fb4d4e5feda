/- Cases of texts: plain facts that the laws use. -/
import Derived.Test.YtjcbhnnlakfmaaaDoorPlainC
import Derived.Test.YtjcbhnnlakfmaaaDoorText
import Derived.Shelf.Strings.CaseAny
namespace Go.Ftx
open Go.Lib
theorem textOf_len4 : ∀ zs : List Int, (textOf zs).length ≤ 4 * zs.length
  | [] => by simp [textOf]
  | z :: zs => by
    have h := textOf_len4 zs
    have h1 := (encodeRune_length z).2
    show (encodeRune z ++ textOf zs).length ≤ _
    rw [List.length_append, List.length_cons]
    omega
theorem mapD_len (f : Int → Int) (l : List UInt8) : (mapD f l).length ≤ 4 * l.length := by
  rw [mapD_chars]
  have h1 := textOf_len4 (mapR f (chars l))
  have h2 : (mapR f (chars l)).length ≤ (chars l).length := by
    unfold mapR
    exact Nat.le_trans (List.length_filter_le _ _) (by simp)
  have h3 := chars_length l
  omega
theorem ex_out (m : List UInt8) : ∃ o : ByteArray, m = o.data.toList := ⟨⟨m.toArray⟩, by simp⟩
theorem out_size (f : Int → Int) {s o : ByteArray} (h : mapD f s.data.toList = o.data.toList) : o.size ≤ 4 * s.size := by
  have h1 := mapD_len f s.data.toList
  rw [h, ← Lib.size_eq, ← Lib.size_eq] at h1
  exact h1
theorem uppB_eq (b : UInt8) : upperB b = uppB b := by
  have h : ∀ i : Fin 256, upperB (UInt8.ofNat i.val) = uppB (UInt8.ofNat i.val) := by decide +kernel
  have := h ⟨b.toNat, UInt8.toNat_lt b⟩
  simpa using this
theorem lowB_eq2 (b : UInt8) : lowerB b = lowB b := by
  have h : ∀ i : Fin 256, lowerB (UInt8.ofNat i.val) = lowB (UInt8.ofNat i.val) := by decide +kernel
  have := h ⟨b.toNat, UInt8.toNat_lt b⟩
  simpa using this
theorem ascii_lt {l : List UInt8} (h : asciiB l = true) : ∀ b ∈ l, b.toNat < 128 := fun b hb => of_decide_eq_true (List.all_eq_true.1 h b hb)
theorem upper_ascii (l : List UInt8) (h : asciiB l = true) : mapD toUpperU l = l.map uppB := by
  have e : toUpperD l = toUpperA l := toUpperD_ascii l (ascii_lt h)
  show toUpperD l = _
  rw [e]
  show l.map upperB = l.map uppB
  exact List.map_congr_left fun b _ => uppB_eq b
theorem lower_ascii (l : List UInt8) (h : asciiB l = true) : mapD toLowerU l = l.map lowB := by
  have e : toLowerD l = toLowerA l := toLowerD_ascii l (ascii_lt h)
  show toLowerD l = _
  rw [e]
  show l.map lowerB = l.map lowB
  exact List.map_congr_left fun b _ => lowB_eq2 b
theorem chars_ascii : ∀ l : List UInt8, asciiB l = true → chars l = l.map UInt8.toNat
  | [], _ => rfl
  | b :: l, h => by
    have hb := ascii_lt h b (by simp)
    have hl : asciiB l = true := by
      unfold asciiB at h ⊢
      rw [List.all_cons, Bool.and_eq_true] at h
      exact h.2
    have hd : decodeL (b :: l) = (b.toNat, 1) := by
      rw [decodeL_N]
      exact decodeN_one _ _ _ _ _ hb
    rw [chars_step _ (by simp), hd]
    show b.toNat :: chars l = _
    rw [chars_ascii l hl]
    rfl
theorem title_upper (n : Nat) (h : n < 128) : toTitleU (n : Int) = toUpperU (n : Int) := by
  have h' : (n : Int) ≤ 127 := by omega
  unfold toTitleU toUpperU
  simp only [if_pos h']
theorem title_ascii (l : List UInt8) (h : asciiB l = true) : mapD toTitleU l = l.map uppB := by
  rw [← upper_ascii l h, turns_map title_turns, turns_map upper_turns, chars_ascii l h]
  refine congrArg textOf (List.map_congr_left fun r hr => ?_)
  obtain ⟨b, hb, rfl⟩ := List.mem_map.1 hr
  exact title_upper _ (ascii_lt h b hb)
theorem str_not {s : ByteArray} (h : s.data.toList ≠ []) : (s.toList == ([] : List UInt8)) = false := by
  rw [ByteArray.toList_eq]
  cases e : s.data.toList with
  | nil => exact absurd e h
  | cons a l => rfl
theorem asciiB_not {l : List UInt8} (h : asciiB l = false) : l ≠ [] := by
  rintro rfl
  exact absurd h (by decide)
theorem validD_not {l : List UInt8} (h : Lib.validD l = false) : l ≠ [] := by
  rintro rfl
  exact absurd h (by decide)
/-- the case of texts in sequence -/
theorem turns_append {f : Int → Int} {l : List UInt8} (m : List UInt8) (h : chars (l ++ m) = chars l ++ chars m) : mapD f (l ++ m) = mapD f l ++ mapD f m := by
  rw [mapD_chars, mapD_chars, mapD_chars, h, mapR_append, textOf_append]
end Go.Ftx
