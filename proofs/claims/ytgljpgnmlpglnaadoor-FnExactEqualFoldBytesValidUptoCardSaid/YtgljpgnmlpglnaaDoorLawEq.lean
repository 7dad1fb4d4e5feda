/- Laws on EqualFold of strings drawn from an input: for every input the call returns true, and nothing that was there changes. -/
import Derived.Test.YtgljpgnmlpglnaaDoorKinAll
import Derived.Test.YtgljpgnmlpglnaaDoorEqP
import Derived.Test.YtgljpgnmlpglnaaDoorEqC
import Derived.Test.YtgljpgnmlpglnaaDoorDrawPair
import Derived.Test.YtgljpgnmlpglnaaDoorText
import Derived.WideShapes
namespace Go.Proofs.YtgljpgnmlpglnaaDoor
open Go.RowKit Go.Lib Go.Ftx

set_option maxHeartbeats 1000000 in
theorem foldSelf_walk (w : World) (l : List UInt8) (bv : Value) (hb : BytesL w bv l) (hT : EqTabs w) :
    Calls Tryd.prog 3 #[bv] w (TruePost w) := by
  have hv := hb.code
  clear hb
  rcases hv.split with ⟨a, len, cap, rfl, hl, hl2⟩ | ⟨⟨a, len, cap, rfl, hl⟩, hC⟩
  · clear hv hT
    have hl' : (1048576 : Int) < (len : Int) := by omega
    go_enter Tryd.func3, Tryd.ntmps3
    go_wp2
    go_ret
    exact ⟨rfl, grefl w none⟩
  · have hl' : ¬ (1048576 : Int) < (len : Int) := by omega
    have HC := Lib.hid hC
    have HT := Lib.hid hT
    clear hv hC hT
    go_enter Tryd.func3, Tryd.ntmps3
    go_wp2_with fail
    refine (drawPair_any _ _ HC.out).mono ?_
    rintro e w1 ⟨s, t, hs, ht, rfl, hg1⟩
    have G1 := Lib.hid hg1
    clear hg1 HC
    have hsum : s.size + t.size ≤ 9223372036854775807 := by omega
    have hsz : (s ++ t).size ≤ 4611686018427387904 := by rw [ByteArray.size_append]; omega
    go_wp2_with fail
    refine (eq_call s s _ true (by omega) (by omega) (HT.out.grown G1.out) (eqF_refl _)).mono ?_
    rintro e w2 ⟨rfl, hg2⟩
    have G2 := Lib.hid (gtrans G1.out hg2)
    clear hg2 G1
    go_wp2_with fail
    refine (eq_call t t _ true (by omega) (by omega) (HT.out.grown G2.out) (eqF_refl _)).mono ?_
    rintro e w3 ⟨rfl, hg3⟩
    have G3 := Lib.hid (gtrans G2.out hg3)
    clear hg3 G2
    go_wp2_with fail
    refine (eq_call (s ++ t) (s ++ t) _ true hsz hsz (HT.out.grown G3.out) (eqF_refl _)).mono ?_
    rintro e w4 ⟨rfl, hg4⟩
    have G4 := Lib.hid (gtrans G3.out hg4)
    clear hg4 G3
    go_wp2_with fail
    go_ret
    exact ⟨rfl, G4.out⟩

set_option maxHeartbeats 1000000 in
theorem foldTurned_walk (w : World) (l : List UInt8) (bv : Value) (hb : BytesL w bv l) (hT : EqTabs w) :
    Calls Tryd.prog 4 #[bv] w (TruePost w) := by
  have hv := hb.code
  clear hb
  rcases hv.split with ⟨a, len, cap, rfl, hl, hl2⟩ | ⟨⟨a, len, cap, rfl, hl⟩, hC⟩
  · clear hv hT
    have hl' : (1048576 : Int) < (len : Int) := by omega
    go_enter Tryd.func4, Tryd.ntmps4
    go_wp2
    go_ret
    exact ⟨rfl, grefl w none⟩
  · have hl' : ¬ (1048576 : Int) < (len : Int) := by omega
    have HC := Lib.hid hC
    have HT := Lib.hid hT
    clear hv hC hT
    go_enter Tryd.func4, Tryd.ntmps4
    go_wp2_with fail
    refine (drawPair_any _ _ HC.out).mono ?_
    rintro e w1 ⟨s, t, hs, ht, rfl, hg1⟩
    have G1 := Lib.hid hg1
    clear hg1 HC
    have hsym := Lib.hid (eqF_symm t.data.toList s.data.toList)
    obtain ⟨b, hbe⟩ : ∃ b, eqF s.data.toList t.data.toList = b := ⟨_, rfl⟩
    have HBE := Lib.hid hbe
    have HSE := Lib.hid (show s = t → b = true from fun e => by rw [← hbe, e]; exact eqF_refl _)
    clear hbe
    go_wp2_with fail
    refine (eq_call s t _ b (by omega) (by omega) (HT.out.grown G1.out) HBE.out).mono ?_
    rintro e w2 ⟨rfl, hg2⟩
    have G2 := Lib.hid (gtrans G1.out hg2)
    clear hg2 G1
    go_wp2_with fail
    refine (eq_call t s _ b (by omega) (by omega) (HT.out.grown G2.out) (hsym.out.trans HBE.out)).mono ?_
    rintro e w3 ⟨rfl, hg3⟩
    have G3 := Lib.hid (gtrans G2.out hg3)
    clear hg3 G2
    have hbb : (b == b) = true := by simp
    by_cases hst : s = t
    · subst hst
      obtain rfl := HSE.out rfl
      go_wp2_with fail
      refine (eq_call s s _ true (by omega) (by omega) (HT.out.grown G3.out) (eqF_refl _)).mono ?_
      rintro e w4 ⟨rfl, hg4⟩
      have G4 := Lib.hid (gtrans G3.out hg4)
      clear hg4 G3
      go_wp2_with fail
      refine (eq_call s s _ true (by omega) (by omega) (HT.out.grown G4.out) (eqF_refl _)).mono ?_
      rintro e w5 ⟨rfl, hg5⟩
      have G5 := Lib.hid (gtrans G4.out hg5)
      clear hg5 G4
      go_wp2_with fail
      go_ret
      exact ⟨rfl, G5.out⟩
    · have hne : (s.toList == t.toList) = false := str_ne (fun e => hst (WideShapes.bytes_inj e))
      go_wp2_with fail
      refine (eq_call s s _ true (by omega) (by omega) (HT.out.grown G3.out) (eqF_refl _)).mono ?_
      rintro e w4 ⟨rfl, hg4⟩
      have G4 := Lib.hid (gtrans G3.out hg4)
      clear hg4 G3
      go_wp2_with fail
      go_ret
      exact ⟨rfl, G4.out⟩
end Go.Proofs.YtgljpgnmlpglnaaDoor
