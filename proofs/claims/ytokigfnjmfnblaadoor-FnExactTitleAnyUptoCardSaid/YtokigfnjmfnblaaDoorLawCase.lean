/- Laws on the cases of strings: for every input the call returns true, and nothing that was there changes. Written by gen_lawcase.py. -/
import Derived.Test.YtokigfnjmfnblaaDoorCase
import Derived.Test.YtokigfnjmfnblaaDoorCaseP
import Derived.Test.YtokigfnjmfnblaaDoorDrawText
import Derived.Test.YtokigfnjmfnblaaDoorText
namespace Go.Proofs.YtokigfnjmfnblaaDoor
open Go.RowKit Go.Lib Go.Ftx
theorem ascii_isC (s : ByteArray) (w : World) (b : Bool) (hs : s.size ≤ 4611686018427387904) (h : asciiB s.data.toList = b) :
    Calls Tryd.prog 28 #[.string s] w fun e w' => e = .returned (.bool b) ∧ w = w' := h ▸ ascii_any s w hs
theorem valid_isC (s : ByteArray) (w : World) (b : Bool) (hs : s.size ≤ 9223372036854775807) (hT : CTabs w) (h : Lib.validD s.data.toList = b) :
    Calls Tryd.prog 35 #[.string s] w (BoolPost w b) := h ▸ valid_any s w hs hT.2
theorem upperText_is (s : ByteArray) (w : World) (o : ByteArray) (hs : s.size ≤ 140737488351232) (ho : s.data.toList.map uppB = o.data.toList) :
    Calls Tryd.prog 32 #[.string s] w fun e w' => e = .returned (.string o) ∧ w.grownBy w' none := by
  have h := upperText_any s w hs
  rw [ho] at h
  exact h
theorem lowerText_is (s : ByteArray) (w : World) (o : ByteArray) (hs : s.size ≤ 140737488351232) (ho : s.data.toList.map lowB = o.data.toList) :
    Calls Tryd.prog 29 #[.string s] w fun e w' => e = .returned (.string o) ∧ w.grownBy w' none := by
  have h := lowerText_any s w hs
  rw [ho] at h
  exact h

set_option maxHeartbeats 2000000 in
theorem titleTwice_walk (w : World) (l : List UInt8) (bv : Value) (hb : BytesL w bv l) (hT : CTabs w) :
    Calls Tryd.prog 4 #[bv] w (TruePost w) := by
  have hv := hb.code
  clear hb
  rcases hv.split with ⟨a, len, cap, rfl, hl, hl2⟩ | ⟨⟨a, len, cap, rfl, hl⟩, hC⟩
  · clear hv hT
    have hl' : (1048576 : Int) < (len : Int) := by omega
    go_enter Tryd.func4, Tryd.ntmps4
    go_wp2
    go_ret
    exact ⟨rfl, grefl w none⟩
  · have hl' : ¬ (1048576 : Int) < (len : Int) := by omega
    have HC := Lib.hid hC
    have HT := Lib.hid hT
    clear hv hC hT
    go_enter Tryd.func4, Tryd.ntmps4
    go_wp2_with fail
    refine (drawToTitle_any _ _ HC.out).mono ?_
    rintro e w1 ⟨s, hs, rfl, hg1⟩
    have G1 := Lib.hid hg1
    clear hg1
    clear HC
    obtain ⟨o, ho⟩ := ex_out (mapD toTitleU s.data.toList)
    have zo := out_size toTitleU ho
    have ho2 : mapD toTitleU o.data.toList = o.data.toList := by rw [← ho]; exact turns_twice title_turns _
    go_wp2_with fail
    refine (implTitle_is s _ o (by omega) (HT.out.grown G1.out) ho).mono ?_
    rintro e w2 ⟨rfl, hg2⟩
    have G2 := Lib.hid (gtrans G1.out hg2)
    clear hg2 G1
    go_wp2_with fail
    refine (implTitle_is o _ o (by omega) (HT.out.grown G2.out) ho2).mono ?_
    rintro e w3 ⟨rfl, hg3⟩
    have G3 := Lib.hid (gtrans G2.out hg3)
    clear hg3 G2
    go_wp2_with fail
    refine (implTitle_is s _ o (by omega) (HT.out.grown G3.out) ho).mono ?_
    rintro e w4 ⟨rfl, hg4⟩
    have G4 := Lib.hid (gtrans G3.out hg4)
    clear hg4 G3
    go_wp2_with fail
    refine (implTitle_is _ _ (⟨#[83, 79, 77, 69]⟩ : ByteArray) (by decide) (HT.out.grown G4.out) (by decide +kernel)).mono ?_
    rintro e w5 ⟨rfl, hg5⟩
    have G5 := Lib.hid (gtrans G4.out hg5)
    clear hg5 G4
    go_wp2_with fail
    go_ret
    exact ⟨rfl, G5.out⟩

set_option maxHeartbeats 2000000 in
theorem caseTwice_walk (w : World) (l : List UInt8) (bv : Value) (hb : BytesL w bv l) (hT : CTabs w) :
    Calls Tryd.prog 10 #[bv] w (TruePost w) := by
  have hv := hb.code
  clear hb
  rcases hv.split with ⟨a, len, cap, rfl, hl, hl2⟩ | ⟨⟨a, len, cap, rfl, hl⟩, hC⟩
  · clear hv hT
    have hl' : (1048576 : Int) < (len : Int) := by omega
    go_enter Tryd.func10, Tryd.ntmps10
    go_wp2
    go_ret
    exact ⟨rfl, grefl w none⟩
  · have hl' : ¬ (1048576 : Int) < (len : Int) := by omega
    have HC := Lib.hid hC
    have HT := Lib.hid hT
    clear hv hC hT
    go_enter Tryd.func10, Tryd.ntmps10
    go_wp2_with fail
    refine (drawUpper_any _ _ HC.out).mono ?_
    rintro e w1 ⟨s, hs, rfl, hg1⟩
    have G1 := Lib.hid hg1
    clear hg1
    clear HC
    obtain ⟨o, ho⟩ := ex_out (mapD toUpperU s.data.toList)
    have zo := out_size toUpperU ho
    have ho2 : mapD toUpperU o.data.toList = o.data.toList := by rw [← ho]; exact turns_twice upper_turns _
    obtain ⟨u, hu⟩ := ex_out (mapD toLowerU s.data.toList)
    have zu := out_size toLowerU hu
    have hu2 : mapD toLowerU u.data.toList = u.data.toList := by rw [← hu]; exact turns_twice lower_turns _
    go_wp2_with fail
    refine (implUpper_is s _ o (by omega) (HT.out.grown G1.out) ho).mono ?_
    rintro e w2 ⟨rfl, hg2⟩
    have G2 := Lib.hid (gtrans G1.out hg2)
    clear hg2 G1
    go_wp2_with fail
    refine (implUpper_is o _ o (by omega) (HT.out.grown G2.out) ho2).mono ?_
    rintro e w3 ⟨rfl, hg3⟩
    have G3 := Lib.hid (gtrans G2.out hg3)
    clear hg3 G2
    go_wp2_with fail
    refine (implUpper_is s _ o (by omega) (HT.out.grown G3.out) ho).mono ?_
    rintro e w4 ⟨rfl, hg4⟩
    have G4 := Lib.hid (gtrans G3.out hg4)
    clear hg4 G3
    go_wp2_with fail
    refine (implLower_is s _ u (by omega) (HT.out.grown G4.out) hu).mono ?_
    rintro e w5 ⟨rfl, hg5⟩
    have G5 := Lib.hid (gtrans G4.out hg5)
    clear hg5 G4
    go_wp2_with fail
    refine (implLower_is u _ u (by omega) (HT.out.grown G5.out) hu2).mono ?_
    rintro e w6 ⟨rfl, hg6⟩
    have G6 := Lib.hid (gtrans G5.out hg6)
    clear hg6 G5
    go_wp2_with fail
    refine (implLower_is s _ u (by omega) (HT.out.grown G6.out) hu).mono ?_
    rintro e w7 ⟨rfl, hg7⟩
    have G7 := Lib.hid (gtrans G6.out hg7)
    clear hg7 G6
    go_wp2_with fail
    refine (implUpper_is _ _ (⟨#[83, 79, 77, 69]⟩ : ByteArray) (by decide) (HT.out.grown G7.out) (by decide +kernel)).mono ?_
    rintro e w8 ⟨rfl, hg8⟩
    have G8 := Lib.hid (gtrans G7.out hg8)
    clear hg8 G7
    go_wp2_with fail
    go_ret
    exact ⟨rfl, G8.out⟩

set_option maxHeartbeats 2000000 in
theorem upperAscii_walk (w : World) (l : List UInt8) (bv : Value) (hb : BytesL w bv l) (hT : CTabs w) :
    Calls Tryd.prog 11 #[bv] w (TruePost w) := by
  have hv := hb.code
  clear hb
  rcases hv.split with ⟨a, len, cap, rfl, hl, hl2⟩ | ⟨⟨a, len, cap, rfl, hl⟩, hC⟩
  · clear hv hT
    have hl' : (1048576 : Int) < (len : Int) := by omega
    go_enter Tryd.func11, Tryd.ntmps11
    go_wp2
    go_ret
    exact ⟨rfl, grefl w none⟩
  · have hl' : ¬ (1048576 : Int) < (len : Int) := by omega
    have HC := Lib.hid hC
    have HT := Lib.hid hT
    clear hv hC hT
    go_enter Tryd.func11, Tryd.ntmps11
    go_wp2_with fail
    refine (drawUpper_any _ _ HC.out).mono ?_
    rintro e w1 ⟨s, hs, rfl, hg1⟩
    have G1 := Lib.hid hg1
    clear hg1
    clear HC
    cases has : asciiB s.data.toList with
    | false =>
      have hne : (s.toList == ([] : List UInt8)) = false := str_not (asciiB_not has)
      go_wp2_with fail
      refine (ascii_isC s _ false (by omega) has).mono ?_
      rintro e w' ⟨rfl, rfl⟩
      go_wp2_with fail
      refine (implUpper_is _ _ (⟨#[83, 79, 77, 69]⟩ : ByteArray) (by decide) (HT.out.grown G1.out) (by decide +kernel)).mono ?_
      rintro e w2 ⟨rfl, hg2⟩
      have G2 := Lib.hid (gtrans G1.out hg2)
      clear hg2 G1
      go_wp2_with fail
      go_ret
      exact ⟨rfl, G2.out⟩
    | true =>
      go_wp2_with fail
      refine (ascii_isC s _ true (by omega) has).mono ?_
      rintro e w' ⟨rfl, rfl⟩
      obtain ⟨o, ho⟩ := ex_out (mapD toUpperU s.data.toList)
      have zo := out_size toUpperU ho
      obtain ⟨u, hu⟩ := ex_out (mapD toLowerU s.data.toList)
      have zu := out_size toLowerU hu
      have ho2 : s.data.toList.map uppB = o.data.toList := by rw [← ho]; exact (upper_ascii _ has).symm
      have hu2 : s.data.toList.map lowB = u.data.toList := by rw [← hu]; exact (lower_ascii _ has).symm
      go_wp2_with fail
      refine (implUpper_is s _ o (by omega) (HT.out.grown G1.out) ho).mono ?_
      rintro e w2 ⟨rfl, hg2⟩
      have G2 := Lib.hid (gtrans G1.out hg2)
      clear hg2 G1
      go_wp2_with fail
      refine (upperText_is s _ o (by omega) ho2).mono ?_
      rintro e w3 ⟨rfl, hg3⟩
      have G3 := Lib.hid (gtrans G2.out hg3)
      clear hg3 G2
      go_wp2_with fail
      refine (implLower_is s _ u (by omega) (HT.out.grown G3.out) hu).mono ?_
      rintro e w4 ⟨rfl, hg4⟩
      have G4 := Lib.hid (gtrans G3.out hg4)
      clear hg4 G3
      go_wp2_with fail
      refine (lowerText_is s _ u (by omega) hu2).mono ?_
      rintro e w5 ⟨rfl, hg5⟩
      have G5 := Lib.hid (gtrans G4.out hg5)
      clear hg5 G4
      go_wp2_with fail
      refine (implUpper_is _ _ (⟨#[83, 79, 77, 69]⟩ : ByteArray) (by decide) (HT.out.grown G5.out) (by decide +kernel)).mono ?_
      rintro e w6 ⟨rfl, hg6⟩
      have G6 := Lib.hid (gtrans G5.out hg6)
      clear hg6 G5
      go_wp2_with fail
      go_ret
      exact ⟨rfl, G6.out⟩

set_option maxHeartbeats 2000000 in
theorem upperMap_walk (w : World) (l : List UInt8) (bv : Value) (hb : BytesL w bv l) (hT : CTabs w) :
    Calls Tryd.prog 13 #[bv] w (TruePost w) := by
  have hv := hb.code
  clear hb
  rcases hv.split with ⟨a, len, cap, rfl, hl, hl2⟩ | ⟨⟨a, len, cap, rfl, hl⟩, hC⟩
  · clear hv hT
    have hl' : (1048576 : Int) < (len : Int) := by omega
    go_enter Tryd.func13, Tryd.ntmps13
    go_wp2
    go_ret
    exact ⟨rfl, grefl w none⟩
  · have hl' : ¬ (1048576 : Int) < (len : Int) := by omega
    have HC := Lib.hid hC
    have HT := Lib.hid hT
    clear hv hC hT
    go_enter Tryd.func13, Tryd.ntmps13
    go_wp2_with fail
    refine (drawMapUpper_any _ _ HC.out).mono ?_
    rintro e w1 ⟨s, hs, rfl, hg1⟩
    have G1 := Lib.hid hg1
    clear hg1
    clear HC
    cases hv : Lib.validD s.data.toList with
    | false =>
      have hne : (s.toList == ([] : List UInt8)) = false := str_not (validD_not hv)
      go_wp2_with fail
      refine (valid_isC s _ false (by omega) (HT.out.grown G1.out) hv).mono ?_
      rintro e w2 ⟨rfl, hg2⟩
      have G2 := Lib.hid (gtrans G1.out hg2)
      clear hg2 G1
      go_wp2_with fail
      refine (mapUpper_is _ _ (⟨#[83, 79, 77, 69]⟩ : ByteArray) (by decide) (HT.out.grown G2.out) (by decide +kernel)).mono ?_
      rintro e w3 ⟨rfl, hg3⟩
      have G3 := Lib.hid (gtrans G2.out hg3)
      clear hg3 G2
      go_wp2_with fail
      go_ret
      exact ⟨rfl, G3.out⟩
    | true =>
      go_wp2_with fail
      refine (valid_isC s _ true (by omega) (HT.out.grown G1.out) hv).mono ?_
      rintro e w2 ⟨rfl, hg2⟩
      have G2 := Lib.hid (gtrans G1.out hg2)
      clear hg2 G1
      obtain ⟨o, ho⟩ := ex_out (mapD toUpperU s.data.toList)
      have zo := out_size toUpperU ho
      go_wp2_with fail
      refine (implUpper_is s _ o (by omega) (HT.out.grown G2.out) ho).mono ?_
      rintro e w3 ⟨rfl, hg3⟩
      have G3 := Lib.hid (gtrans G2.out hg3)
      clear hg3 G2
      go_wp2_with fail
      refine (mapUpper_is s _ o (by omega) (HT.out.grown G3.out) ho).mono ?_
      rintro e w4 ⟨rfl, hg4⟩
      have G4 := Lib.hid (gtrans G3.out hg4)
      clear hg4 G3
      go_wp2_with fail
      refine (implUpper_is _ _ (⟨#[83, 79, 77, 69]⟩ : ByteArray) (by decide) (HT.out.grown G4.out) (by decide +kernel)).mono ?_
      rintro e w5 ⟨rfl, hg5⟩
      have G5 := Lib.hid (gtrans G4.out hg5)
      clear hg5 G4
      go_wp2_with fail
      go_ret
      exact ⟨rfl, G5.out⟩

set_option maxHeartbeats 2000000 in
theorem lowerMap_walk (w : World) (l : List UInt8) (bv : Value) (hb : BytesL w bv l) (hT : CTabs w) :
    Calls Tryd.prog 12 #[bv] w (TruePost w) := by
  have hv := hb.code
  clear hb
  rcases hv.split with ⟨a, len, cap, rfl, hl, hl2⟩ | ⟨⟨a, len, cap, rfl, hl⟩, hC⟩
  · clear hv hT
    have hl' : (1048576 : Int) < (len : Int) := by omega
    go_enter Tryd.func12, Tryd.ntmps12
    go_wp2
    go_ret
    exact ⟨rfl, grefl w none⟩
  · have hl' : ¬ (1048576 : Int) < (len : Int) := by omega
    have HC := Lib.hid hC
    have HT := Lib.hid hT
    clear hv hC hT
    go_enter Tryd.func12, Tryd.ntmps12
    go_wp2_with fail
    refine (drawMapLower_any _ _ HC.out).mono ?_
    rintro e w1 ⟨s, hs, rfl, hg1⟩
    have G1 := Lib.hid hg1
    clear hg1
    clear HC
    cases hv : Lib.validD s.data.toList with
    | false =>
      have hne : (s.toList == ([] : List UInt8)) = false := str_not (validD_not hv)
      go_wp2_with fail
      refine (valid_isC s _ false (by omega) (HT.out.grown G1.out) hv).mono ?_
      rintro e w2 ⟨rfl, hg2⟩
      have G2 := Lib.hid (gtrans G1.out hg2)
      clear hg2 G1
      go_wp2_with fail
      refine (mapLower_is _ _ (⟨#[115, 111, 109, 101]⟩ : ByteArray) (by decide) (HT.out.grown G2.out) (by decide +kernel)).mono ?_
      rintro e w3 ⟨rfl, hg3⟩
      have G3 := Lib.hid (gtrans G2.out hg3)
      clear hg3 G2
      go_wp2_with fail
      go_ret
      exact ⟨rfl, G3.out⟩
    | true =>
      go_wp2_with fail
      refine (valid_isC s _ true (by omega) (HT.out.grown G1.out) hv).mono ?_
      rintro e w2 ⟨rfl, hg2⟩
      have G2 := Lib.hid (gtrans G1.out hg2)
      clear hg2 G1
      obtain ⟨o, ho⟩ := ex_out (mapD toLowerU s.data.toList)
      have zo := out_size toLowerU ho
      go_wp2_with fail
      refine (implLower_is s _ o (by omega) (HT.out.grown G2.out) ho).mono ?_
      rintro e w3 ⟨rfl, hg3⟩
      have G3 := Lib.hid (gtrans G2.out hg3)
      clear hg3 G2
      go_wp2_with fail
      refine (mapLower_is s _ o (by omega) (HT.out.grown G3.out) ho).mono ?_
      rintro e w4 ⟨rfl, hg4⟩
      have G4 := Lib.hid (gtrans G3.out hg4)
      clear hg4 G3
      go_wp2_with fail
      refine (implLower_is _ _ (⟨#[115, 111, 109, 101]⟩ : ByteArray) (by decide) (HT.out.grown G4.out) (by decide +kernel)).mono ?_
      rintro e w5 ⟨rfl, hg5⟩
      have G5 := Lib.hid (gtrans G4.out hg5)
      clear hg5 G4
      go_wp2_with fail
      go_ret
      exact ⟨rfl, G5.out⟩

set_option maxHeartbeats 2000000 in
theorem caseMapAny_walk (w : World) (l : List UInt8) (bv : Value) (hb : BytesL w bv l) (hT : CTabs w) :
    Calls Tryd.prog 14 #[bv] w (TruePost w) := by
  have hv := hb.code
  clear hb
  rcases hv.split with ⟨a, len, cap, rfl, hl, hl2⟩ | ⟨⟨a, len, cap, rfl, hl⟩, hC⟩
  · clear hv hT
    have hl' : (1048576 : Int) < (len : Int) := by omega
    go_enter Tryd.func14, Tryd.ntmps14
    go_wp2
    go_ret
    exact ⟨rfl, grefl w none⟩
  · have hl' : ¬ (1048576 : Int) < (len : Int) := by omega
    have HC := Lib.hid hC
    have HT := Lib.hid hT
    clear hv hC hT
    go_enter Tryd.func14, Tryd.ntmps14
    go_wp2_with fail
    refine (drawToLower_any _ _ HC.out).mono ?_
    rintro e w1 ⟨s, hs, rfl, hg1⟩
    have G1 := Lib.hid hg1
    clear hg1
    clear HC
    obtain ⟨o, ho⟩ := ex_out (mapD toUpperU s.data.toList)
    have zo := out_size toUpperU ho
    obtain ⟨u, hu⟩ := ex_out (mapD toLowerU s.data.toList)
    have zu := out_size toLowerU hu
    go_wp2_with fail
    refine (implUpper_is s _ o (by omega) (HT.out.grown G1.out) ho).mono ?_
    rintro e w2 ⟨rfl, hg2⟩
    have G2 := Lib.hid (gtrans G1.out hg2)
    clear hg2 G1
    go_wp2_with fail
    refine (mapUpper_is s _ o (by omega) (HT.out.grown G2.out) ho).mono ?_
    rintro e w3 ⟨rfl, hg3⟩
    have G3 := Lib.hid (gtrans G2.out hg3)
    clear hg3 G2
    go_wp2_with fail
    refine (implLower_is s _ u (by omega) (HT.out.grown G3.out) hu).mono ?_
    rintro e w4 ⟨rfl, hg4⟩
    have G4 := Lib.hid (gtrans G3.out hg4)
    clear hg4 G3
    go_wp2_with fail
    refine (mapLower_is s _ u (by omega) (HT.out.grown G4.out) hu).mono ?_
    rintro e w5 ⟨rfl, hg5⟩
    have G5 := Lib.hid (gtrans G4.out hg5)
    clear hg5 G4
    go_wp2_with fail
    refine (implLower_is _ _ (⟨#[115, 111, 109, 101]⟩ : ByteArray) (by decide) (HT.out.grown G5.out) (by decide +kernel)).mono ?_
    rintro e w6 ⟨rfl, hg6⟩
    have G6 := Lib.hid (gtrans G5.out hg6)
    clear hg6 G5
    go_wp2_with fail
    go_ret
    exact ⟨rfl, G6.out⟩

set_option maxHeartbeats 2000000 in
theorem exUpper_walk (w : World) (s : ByteArray) (_ : s.size ≤ maxLen) (hT : CTabs w) (hs : s.size ≤ 1048576) :
    Calls Tryd.prog 8 #[.string s] w (TruePost w) := by
  have HT := Lib.hid hT
  clear hT
  go_enter Tryd.func8, Tryd.ntmps8
  obtain ⟨o, ho⟩ := ex_out (mapD toUpperU s.data.toList)
  have zo := out_size toUpperU ho
  go_wp2_with fail
  refine (implUpper_is s _ o (by omega) HT.out ho).mono ?_
  rintro e w1 ⟨rfl, hg1⟩
  have G1 := Lib.hid hg1
  clear hg1
  go_wp2_with fail
  refine (mapUpper_is s _ o (by omega) (HT.out.grown G1.out) ho).mono ?_
  rintro e w2 ⟨rfl, hg2⟩
  have G2 := Lib.hid (gtrans G1.out hg2)
  clear hg2 G1
  cases has : asciiB s.data.toList with
  | false =>
    go_wp2_with fail
    refine (ascii_isC s _ false (by omega) has).mono ?_
    rintro e w' ⟨rfl, rfl⟩
    go_wp2_with fail
    go_ret
    exact ⟨rfl, G2.out⟩
  | true =>
    go_wp2_with fail
    refine (ascii_isC s _ true (by omega) has).mono ?_
    rintro e w' ⟨rfl, rfl⟩
    have ho2 : s.data.toList.map uppB = o.data.toList := by rw [← ho]; exact (upper_ascii _ has).symm
    go_wp2_with fail
    refine (implUpper_is s _ o (by omega) (HT.out.grown G2.out) ho).mono ?_
    rintro e w3 ⟨rfl, hg3⟩
    have G3 := Lib.hid (gtrans G2.out hg3)
    clear hg3 G2
    go_wp2_with fail
    refine (upperText_is s _ o (by omega) ho2).mono ?_
    rintro e w4 ⟨rfl, hg4⟩
    have G4 := Lib.hid (gtrans G3.out hg4)
    clear hg4 G3
    go_wp2_with fail
    go_ret
    exact ⟨rfl, G4.out⟩

set_option maxHeartbeats 2000000 in
theorem exLower_walk (w : World) (s : ByteArray) (_ : s.size ≤ maxLen) (hT : CTabs w) (hs : s.size ≤ 1048576) :
    Calls Tryd.prog 6 #[.string s] w (TruePost w) := by
  have HT := Lib.hid hT
  clear hT
  go_enter Tryd.func6, Tryd.ntmps6
  obtain ⟨o, ho⟩ := ex_out (mapD toLowerU s.data.toList)
  have zo := out_size toLowerU ho
  go_wp2_with fail
  refine (implLower_is s _ o (by omega) HT.out ho).mono ?_
  rintro e w1 ⟨rfl, hg1⟩
  have G1 := Lib.hid hg1
  clear hg1
  go_wp2_with fail
  refine (mapLower_is s _ o (by omega) (HT.out.grown G1.out) ho).mono ?_
  rintro e w2 ⟨rfl, hg2⟩
  have G2 := Lib.hid (gtrans G1.out hg2)
  clear hg2 G1
  cases has : asciiB s.data.toList with
  | false =>
    go_wp2_with fail
    refine (ascii_isC s _ false (by omega) has).mono ?_
    rintro e w' ⟨rfl, rfl⟩
    go_wp2_with fail
    go_ret
    exact ⟨rfl, G2.out⟩
  | true =>
    go_wp2_with fail
    refine (ascii_isC s _ true (by omega) has).mono ?_
    rintro e w' ⟨rfl, rfl⟩
    have ho2 : s.data.toList.map lowB = o.data.toList := by rw [← ho]; exact (lower_ascii _ has).symm
    go_wp2_with fail
    refine (implLower_is s _ o (by omega) (HT.out.grown G2.out) ho).mono ?_
    rintro e w3 ⟨rfl, hg3⟩
    have G3 := Lib.hid (gtrans G2.out hg3)
    clear hg3 G2
    go_wp2_with fail
    refine (lowerText_is s _ o (by omega) ho2).mono ?_
    rintro e w4 ⟨rfl, hg4⟩
    have G4 := Lib.hid (gtrans G3.out hg4)
    clear hg4 G3
    go_wp2_with fail
    go_ret
    exact ⟨rfl, G4.out⟩

set_option maxHeartbeats 2000000 in
theorem exUpperAny_walk (w : World) (s : ByteArray) (_ : s.size ≤ maxLen) (hT : CTabs w) (hs : s.size ≤ 1048576) :
    Calls Tryd.prog 9 #[.string s] w (TruePost w) := by
  have HT := Lib.hid hT
  clear hT
  go_enter Tryd.func9, Tryd.ntmps9
  obtain ⟨o, ho⟩ := ex_out (mapD toUpperU s.data.toList)
  have zo := out_size toUpperU ho
  go_wp2_with fail
  refine (implUpper_is s _ o (by omega) HT.out ho).mono ?_
  rintro e w1 ⟨rfl, hg1⟩
  have G1 := Lib.hid hg1
  clear hg1
  go_wp2_with fail
  refine (turnedUpper_is s _ o (by omega) (HT.out.grown G1.out) ho).mono ?_
  rintro e w2 ⟨rfl, hg2⟩
  have G2 := Lib.hid (gtrans G1.out hg2)
  clear hg2 G1
  have hc : toUpperU 97 = 65 := by decide +kernel
  go_wp2_with fail
  refine (runeUpper_any _ _ (HT.out.grown G2.out).1).mono ?_
  rintro e w' ⟨rfl, q, rfl⟩
  rw [hc]
  go_wp2_with fail
  go_ret
  exact ⟨rfl, gdrewN G2.out _⟩

set_option maxHeartbeats 2000000 in
theorem exLowerAny_walk (w : World) (s : ByteArray) (_ : s.size ≤ maxLen) (hT : CTabs w) (hs : s.size ≤ 1048576) :
    Calls Tryd.prog 7 #[.string s] w (TruePost w) := by
  have HT := Lib.hid hT
  clear hT
  go_enter Tryd.func7, Tryd.ntmps7
  obtain ⟨o, ho⟩ := ex_out (mapD toLowerU s.data.toList)
  have zo := out_size toLowerU ho
  go_wp2_with fail
  refine (implLower_is s _ o (by omega) HT.out ho).mono ?_
  rintro e w1 ⟨rfl, hg1⟩
  have G1 := Lib.hid hg1
  clear hg1
  go_wp2_with fail
  refine (turnedLower_is s _ o (by omega) (HT.out.grown G1.out) ho).mono ?_
  rintro e w2 ⟨rfl, hg2⟩
  have G2 := Lib.hid (gtrans G1.out hg2)
  clear hg2 G1
  have hc : toLowerU 65 = 97 := by decide +kernel
  go_wp2_with fail
  refine (runeLower_any _ _ (HT.out.grown G2.out).1).mono ?_
  rintro e w' ⟨rfl, q, rfl⟩
  rw [hc]
  go_wp2_with fail
  go_ret
  exact ⟨rfl, gdrewN G2.out _⟩

set_option maxHeartbeats 2000000 in
theorem exTitleAny_walk (w : World) (s : ByteArray) (_ : s.size ≤ maxLen) (hT : CTabs w) (hs : s.size ≤ 1048576) :
    Calls Tryd.prog 5 #[.string s] w (TruePost w) := by
  have HT := Lib.hid hT
  clear hT
  go_enter Tryd.func5, Tryd.ntmps5
  obtain ⟨o, ho⟩ := ex_out (mapD toTitleU s.data.toList)
  have zo := out_size toTitleU ho
  go_wp2_with fail
  refine (implTitle_is s _ o (by omega) HT.out ho).mono ?_
  rintro e w1 ⟨rfl, hg1⟩
  have G1 := Lib.hid hg1
  clear hg1
  go_wp2_with fail
  refine (mapTitle_is s _ o (by omega) (HT.out.grown G1.out) ho).mono ?_
  rintro e w2 ⟨rfl, hg2⟩
  have G2 := Lib.hid (gtrans G1.out hg2)
  clear hg2 G1
  go_wp2_with fail
  refine (implTitle_is s _ o (by omega) (HT.out.grown G2.out) ho).mono ?_
  rintro e w3 ⟨rfl, hg3⟩
  have G3 := Lib.hid (gtrans G2.out hg3)
  clear hg3 G2
  go_wp2_with fail
  refine (turnedTitle_is s _ o (by omega) (HT.out.grown G3.out) ho).mono ?_
  rintro e w4 ⟨rfl, hg4⟩
  have G4 := Lib.hid (gtrans G3.out hg4)
  clear hg4 G3
  go_wp2_with fail
  go_ret
  exact ⟨rfl, G4.out⟩

end Go.Proofs.YtokigfnjmfnblaaDoor
