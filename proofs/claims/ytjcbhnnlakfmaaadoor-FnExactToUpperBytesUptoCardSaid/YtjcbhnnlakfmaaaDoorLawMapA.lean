/- The law FnMapAgree: both packages map alike. Written by gen_lawmapa.py. -/
import Derived.Test.YtjcbhnnlakfmaaaDoorLawMapD
import Derived.Test.YtjcbhnnlakfmaaaDoorReg
import Derived.Lib.SlBytesConst
namespace Go.Proofs.YtjcbhnnlakfmaaaDoor
open Go.Shelf Go.RowKit Go.Lib Go.Ftx
/-- '[]byte(s)': a new slice that holds the text's bytes -/
theorem to_bytes (w : World) (s : ByteArray) (hz : s.size ≤ 4611686018427387904) : ∃ a c w', (convert 9 22 (.string s)).run Tryd.prog w = .ok (.slice (some ⟨a, 0, none⟩) s.size c) w' ∧ BytesL w' (.slice (some ⟨a, 0, none⟩) s.size c) s.data.toList ∧ w.grownBy w' none := by
  have h := run_bytes_of_string (P := Tryd.prog) w 9 22 5 s Tryd.underlying9 Tryd.underlying22 Tryd.underlying5
  have hge := grownCap_ge w s.size 0 5
  have hle := grownCap_le_maxLen w s.size 0 5 (by unfold maxLen; omega)
  have hl : s.data.toList.length = s.size := (Lib.size_eq s).symm
  refine ⟨_, _, _, h, .inr ⟨w.heap.size, 0, grownCap w s.size 0 5, by rw [hl], by rw [hl]; exact hge, hle, fun i hi => ?_⟩, gtrans (gdrew (grefl w none)) (World.grownBy_alloc w.drew _ none)⟩
  have hc := cell_of_heap (heap_alloc_new w.drew (.cells (bytesRow s (grownCap w s.size 0 5)) 5 ((bytesRow s (grownCap w s.size 0 5)).size, (bytesRow s (grownCap w s.size 0 5)).size + 1))) i
  rw [hl] at hi
  rw [Nat.zero_add]
  refine Eq.trans hc ?_
  have hi' : i < s.data.size := hi
  have e : s.data[i]? = some s.data[i] := Array.getElem?_eq_getElem hi'
  simp [bytesRow, Array.getElem?_append, hi, List.getD]
/-- '[]byte("some")' -/
theorem some_bytes (w : World) (fr : Nat × Nat) : BytesL (w.alloc (.cells #[.int .u8 115, .int .u8 111, .int .u8 109, .int .u8 101] 5 fr)) (.slice (some ⟨w.heap.size, 0, none⟩) 4 4) #[115, 111, 109, 101].toList := by
  refine .inr ⟨w.heap.size, 0, 4, rfl, by decide, by omega, fun i hi => ?_⟩
  have hi' : i < 4 := hi
  rw [Nat.zero_add]
  refine Eq.trans (cell_of_heap (heap_alloc_new w _) i) ?_
  rcases i with _ | _ | _ | _ | i
  · rfl
  · rfl
  · rfl
  · rfl
  · omega
theorem some_conv (w : World) : (convert 22 22 (.slice (some ⟨w.heap.size, 0, none⟩) 4 4)).run Tryd.prog (w.alloc (.cells #[.int .u8 115, .int .u8 111, .int .u8 109, .int .u8 101] 5)) = .ok (.slice (some ⟨w.heap.size, 0, none⟩) 4 4) (w.alloc (.cells #[.int .u8 115, .int .u8 111, .int .u8 109, .int .u8 101] 5 (4, 5))) := Lib.run_convert_bytes_const (P := Tryd.prog) w 22 5 #[.int .u8 115, .int .u8 111, .int .u8 109, .int .u8 101] 4 4 Tryd.underlying22 Tryd.underlying5
theorem some_map (W : World) (a : Addr) (hB : BytesL W (.slice (some a) 4 4) #[115, 111, 109, 101].toList) (hU : Utf8T W) : Calls Tryd.prog 35 #[.slice none 0 0, .bool true, .int .i32 0, .slice (some a) 4 4] W fun e w' => ∃ g c, e = .returned (.slice (some ⟨g, 0, none⟩) 4 c) ∧ (∀ w'', w'.grownBy w'' none → (convert 22 9 (.slice (some ⟨g, 0, none⟩) 4 c)).run Tryd.prog w'' = .ok (.string ⟨#[115, 111, 109, 101]⟩) w'') ∧ W.grownBy w' none := by
  have h := implMapB_any (.slice none 0 0) [] true 0 _ _ W (RulesL.nil _) okT_nil (by decide) (by decide) hB (by decide) hU
  rw [keep_id _ (by decide +kernel)] at h
  exact h.mono fun e w' ⟨g, c, he, hO, hg⟩ => ⟨g, c, he, fun w'' hk => own_string rfl (hO.kept hk (.inr (by simp [Value.ownBlock]))), hg⟩
theorem mapB_is (v : Value) (T : List (Int × Int)) (keep : Bool) (rest : Int) (u : Value) (l : List UInt8) (o : ByteArray) (W : World) (hT : RulesL W v T) (hok : okT T) (hr0 : -2147483648 ≤ rest) (hr1 : rest ≤ 2147483647) (hB : BytesL W u l) (hs : l.length < 35184372088832) (hU : Utf8T W) (ho : mapD (imgT T keep rest) l = o.data.toList) :
    Calls Tryd.prog 35 #[v, .bool keep, .int .i32 rest, u] W fun e w' => ∃ g c, e = .returned (.slice (some ⟨g, 0, none⟩) o.size c) ∧ (∀ w'', w'.grownBy w'' none → (convert 22 9 (.slice (some ⟨g, 0, none⟩) o.size c)).run Tryd.prog w'' = .ok (.string o) w'') ∧ W.grownBy w' none := by
  have h := implMapB_any v T keep rest u l W hT hok hr0 hr1 hB hs hU
  rw [ho] at h
  have hz : o.data.toList.length = o.size := (Lib.size_eq o).symm
  refine h.mono fun e w' ⟨g, c, he, hO, hg⟩ => ?_
  rw [hz] at he hO
  refine ⟨g, c, he, fun w'' hk => ?_, hg⟩
  have e := own_string hz (hO.kept hk (.inr (by simp [Value.ownBlock])))
  exact e


end Go.Proofs.YtjcbhnnlakfmaaaDoor
