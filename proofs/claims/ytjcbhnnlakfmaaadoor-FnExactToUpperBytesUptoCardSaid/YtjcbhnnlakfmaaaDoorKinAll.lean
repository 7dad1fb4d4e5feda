/- laws.kinAll compares two lists of characters, one by one; spec.Valid; the thin package's EqualFold. -/
import Derived.Test.YtjcbhnnlakfmaaaDoorEqS
import Derived.Test.YtjcbhnnlakfmaaaDoorValid
import Derived.Test.YtjcbhnnlakfmaaaDoorCharsW
import Derived.Deep.QuietTactic
import Derived.BigQuiet
namespace Go.Proofs.YtjcbhnnlakfmaaaDoor
open Go.Shelf Go.RowKit Go.Lib Go.Ftx


theorem implEq_any (s t : ByteArray) (w : World) (hs : s.size ≤ 4611686018427387904) (ht : t.size ≤ 4611686018427387904) (hT : FoldTabs w) (hU : Utf8T w) :
    Calls Tryd.prog 19 #[.string s, .string t] w (BoolPost w (eqF s.data.toList t.data.toList)) := by
  have cE := Lib.hid (equalFold_any s t w hs ht hT hU)
  generalize eqF s.data.toList t.data.toList = ANS at *
  clear hT hU
  go_enter Tryd.func19, Tryd.ntmps19
  go_wp2_with fail
  refine cE.out.mono ?_
  rintro e w' ⟨rfl, hg⟩
  have HG := Lib.hid hg
  clear hg
  go_wp2_with fail
  go_ret
  exact ⟨rfl, HG.out⟩


theorem kinL_drop {xs ys : List Nat} {k : Nat} (ha : k < xs.length) (hb : k < ys.length) : kinL (xs.drop k) (ys.drop k) = (kinB ((xs.getD k 0 : Nat) : Int) ((ys.getD k 0 : Nat) : Int) && kinL (xs.drop (k + 1)) (ys.drop (k + 1))) := by
  rw [List.drop_eq_getElem_cons ha, List.drop_eq_getElem_cons hb]
  simp [kinL, List.getD, ha, hb]
theorem kinL_len : ∀ (xs ys : List Nat), xs.length ≠ ys.length → kinL xs ys = false
  | [], [], h => absurd rfl h
  | [], _ :: _, _ => rfl
  | _ :: _, [], _ => rfl
  | a :: xs, b :: ys, h => by
    rw [kinL, kinL_len xs ys (fun e => h (by simp [e])), Bool.and_false]

end Go.Proofs.YtjcbhnnlakfmaaaDoor
