/- Letters: impl.IsLetter by the shelf's contract; laws.letters tells whether a text is valid and has letters alone. Written by gen_lett.py. -/
import Derived.Test.YtjcbhnnlakfmaaaDoorValid
import Derived.Test.YtjcbhnnlakfmaaaDoorPlainC
import Derived.Test.YtjcbhnnlakfmaaaDoorShelf
import Derived.Shelf.Unicode.PredsPay
import Derived.Deep.LoopGhost
namespace Go.Proofs.YtjcbhnnlakfmaaaDoor
open Go.Shelf Go.RowKit Go.Lib Go.Ftx

/-- the tables that IsLetter reads -/
def LTabs (w : World) : Prop := Lib.TabIs Tryd.prog w "unicode.properties" .u8 Lib.propertiesTab ∧ RVar 3 letterT w
theorem LTabs.grown {w w' : World} (h : LTabs w) (hg : w.grownBy w' none) : LTabs w' := ⟨TabIs_below (g := 2) (by kernel_rfl) h.1 (gbelow hg), RVar_below h.2 (gbelow hg)⟩
theorem uniLetter_any (r : Int) (w : World) (h0 : -2147483648 ≤ r) (h1 : r ≤ 2147483647) (hT : LTabs w) : Calls Tryd.prog 58 #[.int .i32 r] w (BoolPost w (isLetterU r)) :=
  (Any.unicode_IsLetter_all Tryd.lays200 (by kernel_rfl) r w h0 h1 hT.1 hT.2).mono fun _ _ ⟨he, hb⟩ => ⟨he, belowg hb⟩

theorem isLetter_is (r : Int) (w : World) (b : Bool) (h0 : -2147483648 ≤ r) (h1 : r ≤ 2147483647) (hT : LTabs w) (hb : isLetterU r = b) : Calls Tryd.prog 26 #[.int .i32 r] w (BoolPost w b) := by
  have cL := Lib.hid (uniLetter_any r w h0 h1 hT)
  rw [hb] at cL
  clear hT hb
  go_enter Tryd.func26, Tryd.ntmps26
  go_wp2_with fail
  refine cL.out.mono ?_
  rintro e w' ⟨rfl, hg⟩
  have HG := Lib.hid hg
  clear hg
  go_wp2_with fail
  go_ret
  exact ⟨rfl, HG.out⟩

def lettersB (l : List UInt8) : Bool := ((chars l).all fun (r : Nat) => isLetterU (r : Int)) && Lib.validD l
set_option maxHeartbeats 2000000 in
theorem letters_any (s : ByteArray) (w : World) (hs : s.size ≤ 70368744177664) (hT : LTabs w) (hU : Utf8T w) : Calls Tryd.prog 27 #[.string s] w (BoolPost w (lettersB s.data.toList)) := by
  generalize hANS : lettersB s.data.toList = ANS
  unfold lettersB at hANS
  have hln := chars_length s.data.toList
  rw [← Lib.size_eq] at hln
  have cC := Lib.hid (chars_any s w hs)
  have CH := Lib.hid (chars_char s.data.toList)
  have cV := Lib.hid fun (W : World) (hg : w.grownBy W none) => valid_any s W (by omega) (hU.grown hg)
  generalize Lib.validD s.data.toList = VA at *
  generalize chars s.data.toList = rs at *
  have HT := Lib.hid hT
  have HA := Lib.hid hANS
  clear hT hU hANS
  go_enter Tryd.func27, Tryd.ntmps27
  go_wp2_with fail
  refine cC.out.mono ?_
  rintro e w1 ⟨gb, cap, rfl, hown, hg⟩
  have HR := Lib.hid (runesAt_of hown)
  have HG := Lib.hid hg
  clear hown hg cC
  go_wp2_with fail
  go_loopg [8] rs.length (fun g s8 wx => ∃ k : Nat, k + g = rs.length ∧ s8 = .int .i64 k ∧ Hid (((rs.drop k).all (fun (r : Nat) => isLetterU (r : Int)) && VA) = ANS) ∧ Hid (w1.grownBy wx none))
  case atStart => exact ⟨0, by omega, rfl, HA.out, grefl w1 none⟩
  case round =>
    obtain ⟨k, hk, rfl, HI, HG1⟩ := hrel
    clear HA
    by_cases hlt : k < rs.length
    · obtain ⟨g', rfl⟩ : ∃ g', gk = g' + 1 := ⟨gk - 1, by omega⟩
      have hzz : (k : Int) < (rs.length : Int) := by omega
      have hch : isChar ((rs.getD k 0 : Nat) : Int) := CH.out _ (by simp [List.getD, hlt])
      have hcell := HR.out.grown HG1.out k hlt
      have HD := Lib.hid (show (rs.drop k).all (fun (r : Nat) => isLetterU (r : Int)) = (isLetterU ((rs.getD k 0 : Nat) : Int) && (rs.drop (k + 1)).all (fun (r : Nat) => isLetterU (r : Int))) by
        rw [List.drop_eq_getElem_cons hlt, List.all_cons, show rs.getD k 0 = rs[k] by simp [List.getD, hlt]])
      have hx0 : -2147483648 ≤ ((rs.getD k 0 : Nat) : Int) := by have := hch.1; omega
      have hx1 : ((rs.getD k 0 : Nat) : Int) ≤ 2147483647 := by have := hch.2.2; omega
      generalize ((rs.getD k 0 : Nat) : Int) = x at *
      cases hL : isLetterU x with
      | true =>
        have cL := Lib.hid fun (W : World) (hg : w.grownBy W none) => isLetter_is x W true hx0 hx1 (HT.out.grown hg) hL
        have HE := Lib.hid (show ((rs.drop (k + 1)).all (fun (r : Nat) => isLetterU (r : Int)) && VA) = ANS by rw [← HI.out, HD.out, hL, Bool.true_and])
        clear hL HD hch HI
        go_wp2_with fail
        refine (cL.out _ (gtrans HG.out (by first | exact HG1.out | exact galloc HG1.out _))).mono ?_
        rintro e w2 ⟨rfl, hg2⟩
        have HG2 := Lib.hid (show w1.grownBy w2 none from by first | exact gtrans HG1.out hg2 | exact gtrans (galloc HG1.out _) hg2)
        clear hg2 HG1
        go_wp2_with fail
        go_roundg g'
        case measure => omega
        case rel => exact ⟨k + 1, by omega, by first | rfl | simp, HE.out, HG2.out⟩
      | false =>
        have cL := Lib.hid fun (W : World) (hg : w.grownBy W none) => isLetter_is x W false hx0 hx1 (HT.out.grown hg) hL
        have HE := Lib.hid (show ANS = false by rw [← HI.out, HD.out, hL, Bool.false_and, Bool.false_and])
        clear hL HD hch HI
        go_wp2_with fail
        refine (cL.out _ (gtrans HG.out (by first | exact HG1.out | exact galloc HG1.out _))).mono ?_
        rintro e w2 ⟨rfl, hg2⟩
        have HG2 := Lib.hid (show w1.grownBy w2 none from by first | exact gtrans HG1.out hg2 | exact gtrans (galloc HG1.out _) hg2)
        clear hg2 HG1
        go_wp2_with fail
        go_ret
        exact ⟨congrArg (fun z => Ending.returned (.bool z)) HE.out.symm, gtrans HG.out HG2.out⟩
    · have hzz : ¬ (k : Int) < (rs.length : Int) := by omega
      have HE := Lib.hid (show VA = ANS by rw [← HI.out, List.drop_eq_nil_of_le (by omega)]; rfl)
      clear HI
      go_wp2_with fail
      refine (cV.out _ (gtrans HG.out HG1.out)).mono ?_
      rintro e w2 ⟨rfl, hg2⟩
      have HG2 := Lib.hid (gtrans (gtrans HG.out HG1.out) hg2)
      clear hg2
      go_wp2_with fail
      go_ret
      exact ⟨congrArg (fun z => Ending.returned (.bool z)) HE.out, HG2.out⟩
theorem letters_is (s : ByteArray) (w : World) (b : Bool) (hs : s.size ≤ 70368744177664) (hT : LTabs w) (hU : Utf8T w) (hb : lettersB s.data.toList = b) : Calls Tryd.prog 27 #[.string s] w (BoolPost w b) := hb ▸ letters_any s w hs hT hU



end Go.Proofs.YtjcbhnnlakfmaaaDoor
