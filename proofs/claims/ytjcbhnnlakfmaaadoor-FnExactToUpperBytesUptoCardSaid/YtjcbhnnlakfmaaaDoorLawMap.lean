/- The exact laws on Map: for every table and every text within the bound the call returns true, and nothing that was there changes. Written by gen_lawmap.py. -/
import Derived.Test.YtjcbhnnlakfmaaaDoorMapW
import Derived.Test.YtjcbhnnlakfmaaaDoorOpenT
import Derived.RegionCalls
import Derived.BigRegion
namespace Go.Proofs.YtjcbhnnlakfmaaaDoor
open Go.Shelf Go.RowKit Go.Lib Go.Ftx
set_option maxRecDepth 100000 in
theorem nil_string (w : World) (n c : Nat) : (convert 22 9 (.slice none n c)).run Tryd.prog w = .ok (.string ⟨#[]⟩) w := by
  have : (convert 22 9 (.slice none n c)).run Tryd.prog w = .ok (.string .empty) w := by rfl
  exact this
theorem bytes_str {w : World} {v : Value} {l : List UInt8} (h : BytesL w v l) : (convert 22 9 v).run Tryd.prog w = .ok (.string ⟨l.toArray⟩) w := by
  rcases h with ⟨a, c, rfl, rfl⟩ | ⟨b, o, c, rfl, hlc, hc63, hc⟩
  · cases a with
    | none => exact nil_string w 0 c
    | some x => exact empty_string w x c
  · refine run_convert_bytes_back (P := Tryd.prog) w 22 9 5 ⟨b, o, none⟩ c l Tryd.underlying22 Tryd.underlying5 Tryd.underlying9 (fun j hj => ?_)
    rw [Addr.add_lit, hc j hj]
    simp [List.getD, hj]
theorem ex_outM (m : List UInt8) : ∃ o : ByteArray, m = o.data.toList := ⟨⟨m.toArray⟩, by simp⟩
theorem implMap_is (v : Value) (T : List (Int × Int)) (keep : Bool) (rest : Int) (s o : ByteArray) (w : World) (hT : RulesL w v T) (hok : okT T) (hr : -2147483648 ≤ rest ∧ rest ≤ 2147483647) (hs : s.size < 35184372088832) (hU : Utf8T w) (ho : mapD (imgT T keep rest) s.data.toList = o.data.toList) :
    Calls Tryd.prog 46 #[v, .bool keep, .int .i32 rest, .string s] w (fun e w' => e = .returned (.string o) ∧ w.grownBy w' none) := by
  have h := implMap_any v T keep rest s w hT hok hr.1 hr.2 hs hU
  rw [ho] at h
  exact h
theorem specMap_is (v : Value) (T : List (Int × Int)) (keep : Bool) (rest : Int) (s o : ByteArray) (w : World) (hT : RulesL w v T) (hok : okT T) (hr : -2147483648 ≤ rest ∧ rest ≤ 2147483647) (hs : s.size < 35184372088000) (ho : mapD (imgT T keep rest) s.data.toList = o.data.toList) :
    Calls Tryd.prog 37 #[v, .bool keep, .int .i32 rest, .string s] w (fun e w' => e = .returned (.string o) ∧ w.grownBy w' none) := by
  have h := specMap_any v T keep rest s w hT hok hr.1 hr.2 hs
  rw [ho] at h
  exact h
theorem proper_is (v : Value) (T : List (Int × Int)) (keep : Bool) (rest : Int) (w : World) (b : Bool) (hT : RulesL w v T) (h : properT T keep rest = b) : Calls Tryd.prog 14 #[v, .bool keep, .int .i32 rest] w (BoolPost w b) := h ▸ proper_any v T keep rest w hT
theorem valid_isM (s : ByteArray) (w : World) (b : Bool) (hs : s.size ≤ 9223372036854775807) (hU : Utf8T w) (h : Lib.validD s.data.toList = b) : Calls Tryd.prog 13 #[.string s] w (BoolPost w b) := h ▸ valid_any s w hs hU




end Go.Proofs.YtjcbhnnlakfmaaaDoor
