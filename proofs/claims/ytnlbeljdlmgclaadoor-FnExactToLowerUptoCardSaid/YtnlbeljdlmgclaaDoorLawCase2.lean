/- Laws on the cases of strings, the second part: texts in sequence, letters. Written by gen_lawcase2.py. -/
import Derived.Test.YtnlbeljdlmgclaaDoorLawCase
import Derived.Test.YtnlbeljdlmgclaaDoorLetT
import Derived.Test.YtnlbeljdlmgclaaDoorValidP
namespace Go.Ftx
open Go.Lib
theorem data_appC (a b : ByteArray) : (a ++ b).data.toList = a.data.toList ++ b.data.toList := by
  rw [ByteArray.data_append, Array.toList_append]
theorem join_out {f : Int → Int} {s t o u : ByteArray} (hs : validD s.data.toList = true) (ho : mapD f s.data.toList = o.data.toList) (hu : mapD f t.data.toList = u.data.toList) : mapD f (s ++ t).data.toList = (o ++ u).data.toList := by
  rw [data_appC, data_appC, turns_append _ (chars_valid_appendP _ _ _ (Nat.le_refl _) hs).1, ho, hu]
theorem size_appC {s t : ByteArray} {a b : Nat} (hs : s.size ≤ a) (ht : t.size ≤ b) : (s ++ t).size ≤ a + b := by rw [ByteArray.size_append]; omega
theorem app_not (s t : ByteArray) (h : s.data.toList ≠ [] ∨ t.data.toList ≠ []) : ((s ++ t).toList == ([] : List UInt8)) = false := by
  rw [ByteArray.toList_eq, data_appC]
  rcases h with h | h
  · cases e : s.data.toList with
    | nil => exact absurd e h
    | cons a l => rfl
  · cases e : t.data.toList with
    | nil => exact absurd e h
    | cons a l => cases s.data.toList <;> rfl
end Go.Ftx
namespace Go.Proofs.YtnlbeljdlmgclaaDoor
open Go.RowKit Go.Lib Go.Ftx
/-- the tables of cases and of letters -/
def XTabs (w : World) : Prop := CTabs w ∧ LTabs w
theorem XTabs.grown {w w' : World} (h : XTabs w) (hg : w.grownBy w' none) : XTabs w' := ⟨h.1.grown hg, h.2.grown hg⟩
theorem letters_valid {l : List UInt8} (h : lettersB l = true) : Lib.validD l = true := by
  unfold lettersB at h
  rw [Bool.and_eq_true] at h
  exact h.2

set_option maxHeartbeats 2000000 in
theorem caseJoin_walk (w : World) (l : List UInt8) (bv : Value) (hb : BytesL w bv l) (m : List UInt8) (cv : Value) (hc : BytesL w cv m) (hT : CTabs w) :
    Calls Tryd.prog 6 #[bv, cv] w (TruePost w) := by
  have hv := hb.code
  have hu := hc.code
  clear hb hc
  rcases hv.split with ⟨a, len, cap, rfl, hl, hl2⟩ | ⟨⟨a, len, cap, rfl, hl⟩, hC⟩
  · clear hv hT
    have hl' : (1048576 : Int) < (len : Int) := by omega
    go_enter Tryd.func6, Tryd.ntmps6
    go_wp2
    go_ret
    exact ⟨rfl, grefl w none⟩
  · have hl' : ¬ (1048576 : Int) < (len : Int) := by omega
    rcases hu.split with ⟨a2, len2, cap2, rfl, hm, hm2⟩ | ⟨⟨a2, len2, cap2, rfl, hm⟩, hD⟩
    · clear hv hu hT hC
      have hm' : (1048576 : Int) < (len2 : Int) := by omega
      go_enter Tryd.func6, Tryd.ntmps6
      go_wp2
      go_ret
      exact ⟨rfl, grefl w none⟩
    · have hm' : ¬ (1048576 : Int) < (len2 : Int) := by omega
      have HC := Lib.hid hC
      have HD := Lib.hid hD
      have HT := Lib.hid hT
      clear hv hu hC hD hT
      go_enter Tryd.func6, Tryd.ntmps6
      go_wp2_with fail
      refine (drawUpper_any _ _ HC.out).mono ?_
      rintro e w1 ⟨s, hs, rfl, hg1⟩
      have G1 := Lib.hid hg1
      clear hg1
      clear HC
      go_wp2_with fail
      refine (drawToLower_any _ _ (CodeAt.kept HD.out G1.out)).mono ?_
      rintro e w2 ⟨t, ht, rfl, hg2⟩
      have G2 := Lib.hid (gtrans G1.out hg2)
      clear hg2 G1
      clear HD
      have hst : s.size + t.size ≤ 9223372036854775807 := by omega
      have zst := size_appC hs ht
      cases hvs : Lib.validD s.data.toList with
      | false =>
        have hne : ((s ++ t).toList == ([] : List UInt8)) = false := app_not s t (Or.inl (validD_not hvs))
        go_wp2_with fail
        refine (valid_isC s _ false (by omega) (HT.out.grown G2.out) hvs).mono ?_
        rintro e w3 ⟨rfl, hg3⟩
        have G3 := Lib.hid (gtrans G2.out hg3)
        clear hg3 G2
        go_wp2_with fail
        refine (implUpper_is _ _ (⟨#[83, 79, 77, 69]⟩ : ByteArray) (by decide) (HT.out.grown G3.out) (by decide +kernel)).mono ?_
        rintro e w4 ⟨rfl, hg4⟩
        have G4 := Lib.hid (gtrans G3.out hg4)
        clear hg4 G3
        go_wp2_with fail
        go_ret
        exact ⟨rfl, G4.out⟩
      | true =>
        go_wp2_with fail
        refine (valid_isC s _ true (by omega) (HT.out.grown G2.out) hvs).mono ?_
        rintro e w3 ⟨rfl, hg3⟩
        have G3 := Lib.hid (gtrans G2.out hg3)
        clear hg3 G2
        cases hvt : Lib.validD t.data.toList with
        | false =>
          have hne : ((s ++ t).toList == ([] : List UInt8)) = false := app_not s t (Or.inr (validD_not hvt))
          go_wp2_with fail
          refine (valid_isC t _ false (by omega) (HT.out.grown G3.out) hvt).mono ?_
          rintro e w4 ⟨rfl, hg4⟩
          have G4 := Lib.hid (gtrans G3.out hg4)
          clear hg4 G3
          go_wp2_with fail
          refine (implUpper_is _ _ (⟨#[83, 79, 77, 69]⟩ : ByteArray) (by decide) (HT.out.grown G4.out) (by decide +kernel)).mono ?_
          rintro e w5 ⟨rfl, hg5⟩
          have G5 := Lib.hid (gtrans G4.out hg5)
          clear hg5 G4
          go_wp2_with fail
          go_ret
          exact ⟨rfl, G5.out⟩
        | true =>
          go_wp2_with fail
          refine (valid_isC t _ true (by omega) (HT.out.grown G3.out) hvt).mono ?_
          rintro e w4 ⟨rfl, hg4⟩
          have G4 := Lib.hid (gtrans G3.out hg4)
          clear hg4 G3
          obtain ⟨o, ho⟩ := ex_out (mapD toUpperU s.data.toList)
          have zo := out_size toUpperU ho
          obtain ⟨u, hu⟩ := ex_out (mapD toUpperU t.data.toList)
          have zu := out_size toUpperU hu
          have hjo := join_out hvs ho hu
          have hzo : o.size + u.size ≤ 9223372036854775807 := by omega
          go_wp2_with fail
          refine (implUpper_is (s ++ t) _ (o ++ u) (by omega) (HT.out.grown G4.out) hjo).mono ?_
          rintro e w5 ⟨rfl, hg5⟩
          have G5 := Lib.hid (gtrans G4.out hg5)
          clear hg5 G4
          go_wp2_with fail
          refine (implUpper_is s _ o (by omega) (HT.out.grown G5.out) ho).mono ?_
          rintro e w6 ⟨rfl, hg6⟩
          have G6 := Lib.hid (gtrans G5.out hg6)
          clear hg6 G5
          go_wp2_with fail
          refine (implUpper_is t _ u (by omega) (HT.out.grown G6.out) hu).mono ?_
          rintro e w7 ⟨rfl, hg7⟩
          have G7 := Lib.hid (gtrans G6.out hg7)
          clear hg7 G6
          obtain ⟨o2, ho2⟩ := ex_out (mapD toLowerU s.data.toList)
          have zo2 := out_size toLowerU ho2
          obtain ⟨u2, hu2⟩ := ex_out (mapD toLowerU t.data.toList)
          have zu2 := out_size toLowerU hu2
          have hjo2 := join_out hvs ho2 hu2
          have hzo2 : o2.size + u2.size ≤ 9223372036854775807 := by omega
          go_wp2_with fail
          refine (implLower_is (s ++ t) _ (o2 ++ u2) (by omega) (HT.out.grown G7.out) hjo2).mono ?_
          rintro e w8 ⟨rfl, hg8⟩
          have G8 := Lib.hid (gtrans G7.out hg8)
          clear hg8 G7
          go_wp2_with fail
          refine (implLower_is s _ o2 (by omega) (HT.out.grown G8.out) ho2).mono ?_
          rintro e w9 ⟨rfl, hg9⟩
          have G9 := Lib.hid (gtrans G8.out hg9)
          clear hg9 G8
          go_wp2_with fail
          refine (implLower_is t _ u2 (by omega) (HT.out.grown G9.out) hu2).mono ?_
          rintro e w10 ⟨rfl, hg10⟩
          have G10 := Lib.hid (gtrans G9.out hg10)
          clear hg10 G9
          go_wp2_with fail
          refine (implUpper_is _ _ (⟨#[83, 79, 77, 69]⟩ : ByteArray) (by decide) (HT.out.grown G10.out) (by decide +kernel)).mono ?_
          rintro e w11 ⟨rfl, hg11⟩
          have G11 := Lib.hid (gtrans G10.out hg11)
          clear hg11 G10
          go_wp2_with fail
          go_ret
          exact ⟨rfl, G11.out⟩

set_option maxHeartbeats 2000000 in
theorem titleJoin_walk (w : World) (l : List UInt8) (bv : Value) (hb : BytesL w bv l) (m : List UInt8) (cv : Value) (hc : BytesL w cv m) (hT : XTabs w) :
    Calls Tryd.prog 4 #[bv, cv] w (TruePost w) := by
  have hv := hb.code
  have hu := hc.code
  clear hb hc
  rcases hv.split with ⟨a, len, cap, rfl, hl, hl2⟩ | ⟨⟨a, len, cap, rfl, hl⟩, hC⟩
  · clear hv hT
    have hl' : (1048576 : Int) < (len : Int) := by omega
    go_enter Tryd.func4, Tryd.ntmps4
    go_wp2
    go_ret
    exact ⟨rfl, grefl w none⟩
  · have hl' : ¬ (1048576 : Int) < (len : Int) := by omega
    rcases hu.split with ⟨a2, len2, cap2, rfl, hm, hm2⟩ | ⟨⟨a2, len2, cap2, rfl, hm⟩, hD⟩
    · clear hv hu hT hC
      have hm' : (1048576 : Int) < (len2 : Int) := by omega
      go_enter Tryd.func4, Tryd.ntmps4
      go_wp2
      go_ret
      exact ⟨rfl, grefl w none⟩
    · have hm' : ¬ (1048576 : Int) < (len2 : Int) := by omega
      have HC := Lib.hid hC
      have HD := Lib.hid hD
      have HT := Lib.hid hT
      clear hv hu hC hD hT
      go_enter Tryd.func4, Tryd.ntmps4
      go_wp2_with fail
      refine (drawToTitle_any _ _ HC.out).mono ?_
      rintro e w1 ⟨s, hs, rfl, hg1⟩
      have G1 := Lib.hid hg1
      clear hg1
      clear HC
      go_wp2_with fail
      refine (drawToTitle_any _ _ (CodeAt.kept HD.out G1.out)).mono ?_
      rintro e w2 ⟨t, ht, rfl, hg2⟩
      have G2 := Lib.hid (gtrans G1.out hg2)
      clear hg2 G1
      clear HD
      have hst : s.size + t.size ≤ 9223372036854775807 := by omega
      have zst := size_appC hs ht
      cases hls : lettersB s.data.toList with
      | false =>
        go_wp2_with fail
        refine (letters_is s _ false (by omega) (HT.out.grown G2.out).2 (HT.out.grown G2.out).1.2 hls).mono ?_
        rintro e w3 ⟨rfl, hg3⟩
        have G3 := Lib.hid (gtrans G2.out hg3)
        clear hg3 G2
        go_wp2_with fail
        refine (implTitle_is _ _ (⟨#[83, 79, 77, 69]⟩ : ByteArray) (by decide) (HT.out.grown G3.out).1 (by decide +kernel)).mono ?_
        rintro e w4 ⟨rfl, hg4⟩
        have G4 := Lib.hid (gtrans G3.out hg4)
        clear hg4 G3
        go_wp2_with fail
        go_ret
        exact ⟨rfl, G4.out⟩
      | true =>
        go_wp2_with fail
        refine (letters_is s _ true (by omega) (HT.out.grown G2.out).2 (HT.out.grown G2.out).1.2 hls).mono ?_
        rintro e w3 ⟨rfl, hg3⟩
        have G3 := Lib.hid (gtrans G2.out hg3)
        clear hg3 G2
        cases hlt : lettersB t.data.toList with
        | false =>
          go_wp2_with fail
          refine (letters_is t _ false (by omega) (HT.out.grown G3.out).2 (HT.out.grown G3.out).1.2 hlt).mono ?_
          rintro e w4 ⟨rfl, hg4⟩
          have G4 := Lib.hid (gtrans G3.out hg4)
          clear hg4 G3
          go_wp2_with fail
          refine (implTitle_is _ _ (⟨#[83, 79, 77, 69]⟩ : ByteArray) (by decide) (HT.out.grown G4.out).1 (by decide +kernel)).mono ?_
          rintro e w5 ⟨rfl, hg5⟩
          have G5 := Lib.hid (gtrans G4.out hg5)
          clear hg5 G4
          go_wp2_with fail
          go_ret
          exact ⟨rfl, G5.out⟩
        | true =>
          go_wp2_with fail
          refine (letters_is t _ true (by omega) (HT.out.grown G3.out).2 (HT.out.grown G3.out).1.2 hlt).mono ?_
          rintro e w4 ⟨rfl, hg4⟩
          have G4 := Lib.hid (gtrans G3.out hg4)
          clear hg4 G3
          have hvs := letters_valid hls
          obtain ⟨o, ho⟩ := ex_out (mapD toTitleU s.data.toList)
          have zo := out_size toTitleU ho
          obtain ⟨u, hu⟩ := ex_out (mapD toTitleU t.data.toList)
          have zu := out_size toTitleU hu
          have hjo := join_out hvs ho hu
          have hzo : o.size + u.size ≤ 9223372036854775807 := by omega
          go_wp2_with fail
          refine (implTitle_is (s ++ t) _ (o ++ u) (by omega) (HT.out.grown G4.out).1 hjo).mono ?_
          rintro e w5 ⟨rfl, hg5⟩
          have G5 := Lib.hid (gtrans G4.out hg5)
          clear hg5 G4
          go_wp2_with fail
          refine (implTitle_is s _ o (by omega) (HT.out.grown G5.out).1 ho).mono ?_
          rintro e w6 ⟨rfl, hg6⟩
          have G6 := Lib.hid (gtrans G5.out hg6)
          clear hg6 G5
          go_wp2_with fail
          refine (implTitle_is t _ u (by omega) (HT.out.grown G6.out).1 hu).mono ?_
          rintro e w7 ⟨rfl, hg7⟩
          have G7 := Lib.hid (gtrans G6.out hg7)
          clear hg7 G6
          go_wp2_with fail
          go_ret
          exact ⟨rfl, G7.out⟩

set_option maxHeartbeats 2000000 in
theorem titleMap_walk (w : World) (l : List UInt8) (bv : Value) (hb : BytesL w bv l) (hT : XTabs w) :
    Calls Tryd.prog 7 #[bv] w (TruePost w) := by
  have hv := hb.code
  clear hb
  rcases hv.split with ⟨a, len, cap, rfl, hl, hl2⟩ | ⟨⟨a, len, cap, rfl, hl⟩, hC⟩
  · clear hv hT
    have hl' : (1048576 : Int) < (len : Int) := by omega
    go_enter Tryd.func7, Tryd.ntmps7
    go_wp2
    go_ret
    exact ⟨rfl, grefl w none⟩
  · have hl' : ¬ (1048576 : Int) < (len : Int) := by omega
    have HC := Lib.hid hC
    have HT := Lib.hid hT
    clear hv hC hT
    go_enter Tryd.func7, Tryd.ntmps7
    go_wp2_with fail
    refine (drawMapTitle_any _ _ HC.out).mono ?_
    rintro e w1 ⟨s, hs, rfl, hg1⟩
    have G1 := Lib.hid hg1
    clear hg1
    clear HC
    cases hls : lettersB s.data.toList with
    | false =>
      go_wp2_with fail
      refine (letters_is s _ false (by omega) (HT.out.grown G1.out).2 (HT.out.grown G1.out).1.2 hls).mono ?_
      rintro e w2 ⟨rfl, hg2⟩
      have G2 := Lib.hid (gtrans G1.out hg2)
      clear hg2 G1
      go_wp2_with fail
      refine (mapTitle_is _ _ (⟨#[83, 79, 77, 69]⟩ : ByteArray) (by decide) (HT.out.grown G2.out).1 (by decide +kernel)).mono ?_
      rintro e w3 ⟨rfl, hg3⟩
      have G3 := Lib.hid (gtrans G2.out hg3)
      clear hg3 G2
      go_wp2_with fail
      go_ret
      exact ⟨rfl, G3.out⟩
    | true =>
      go_wp2_with fail
      refine (letters_is s _ true (by omega) (HT.out.grown G1.out).2 (HT.out.grown G1.out).1.2 hls).mono ?_
      rintro e w2 ⟨rfl, hg2⟩
      have G2 := Lib.hid (gtrans G1.out hg2)
      clear hg2 G1
      obtain ⟨o, ho⟩ := ex_out (mapD toTitleU s.data.toList)
      have zo := out_size toTitleU ho
      go_wp2_with fail
      refine (implTitle_is s _ o (by omega) (HT.out.grown G2.out).1 ho).mono ?_
      rintro e w3 ⟨rfl, hg3⟩
      have G3 := Lib.hid (gtrans G2.out hg3)
      clear hg3 G2
      go_wp2_with fail
      refine (mapTitle_is s _ o (by omega) (HT.out.grown G3.out).1 ho).mono ?_
      rintro e w4 ⟨rfl, hg4⟩
      have G4 := Lib.hid (gtrans G3.out hg4)
      clear hg4 G3
      go_wp2_with fail
      refine (implTitle_is s _ o (by omega) (HT.out.grown G4.out).1 ho).mono ?_
      rintro e w5 ⟨rfl, hg5⟩
      have G5 := Lib.hid (gtrans G4.out hg5)
      clear hg5 G4
      go_wp2_with fail
      refine (turnedTitle_is s _ o (by omega) (HT.out.grown G5.out).1 ho).mono ?_
      rintro e w6 ⟨rfl, hg6⟩
      have G6 := Lib.hid (gtrans G5.out hg6)
      clear hg6 G5
      go_wp2_with fail
      go_ret
      exact ⟨rfl, G6.out⟩

set_option maxHeartbeats 2000000 in
theorem exToTitle_walk (w : World) (s : ByteArray) (_ : s.size ≤ maxLen) (hT : XTabs w) (hs : s.size ≤ 1048576) :
    Calls Tryd.prog 5 #[.string s] w (TruePost w) := by
  have HT := Lib.hid hT
  clear hT
  go_enter Tryd.func5, Tryd.ntmps5
  go_wp2_with fail
  refine (isLetter_is 97 _ true (by omega) (by omega) HT.out.2 (by decide +kernel)).mono ?_
  rintro e w1 ⟨rfl, hg1⟩
  have G1 := Lib.hid hg1
  clear hg1
  cases hls : lettersB s.data.toList with
  | false =>
    go_wp2_with fail
    refine (letters_is s _ false (by omega) (HT.out.grown G1.out).2 (HT.out.grown G1.out).1.2 hls).mono ?_
    rintro e w2 ⟨rfl, hg2⟩
    have G2 := Lib.hid (gtrans G1.out hg2)
    clear hg2 G1
    go_wp2_with fail
    go_ret
    exact ⟨rfl, G2.out⟩
  | true =>
    go_wp2_with fail
    refine (letters_is s _ true (by omega) (HT.out.grown G1.out).2 (HT.out.grown G1.out).1.2 hls).mono ?_
    rintro e w2 ⟨rfl, hg2⟩
    have G2 := Lib.hid (gtrans G1.out hg2)
    clear hg2 G1
    obtain ⟨o, ho⟩ := ex_out (mapD toTitleU s.data.toList)
    have zo := out_size toTitleU ho
    go_wp2_with fail
    refine (implTitle_is s _ o (by omega) (HT.out.grown G2.out).1 ho).mono ?_
    rintro e w3 ⟨rfl, hg3⟩
    have G3 := Lib.hid (gtrans G2.out hg3)
    clear hg3 G2
    go_wp2_with fail
    refine (turnedTitle_is s _ o (by omega) (HT.out.grown G3.out).1 ho).mono ?_
    rintro e w4 ⟨rfl, hg4⟩
    have G4 := Lib.hid (gtrans G3.out hg4)
    clear hg4 G3
    go_wp2_with fail
    go_ret
    exact ⟨rfl, G4.out⟩

set_option maxHeartbeats 2000000 in
theorem exToUpper_walk (w : World) (s : ByteArray) (_ : s.size ≤ maxLen) (hT : XTabs w) (hs : s.size ≤ 1048576) :
    Calls Tryd.prog 9 #[.string s] w (TruePost w) := by
  have HT := Lib.hid hT
  clear hT
  go_enter Tryd.func9, Tryd.ntmps9
  go_wp2_with fail
  refine (isLetter_is 97 _ true (by omega) (by omega) HT.out.2 (by decide +kernel)).mono ?_
  rintro e w1 ⟨rfl, hg1⟩
  have G1 := Lib.hid hg1
  clear hg1
  cases hls : lettersB s.data.toList with
  | false =>
    go_wp2_with fail
    refine (letters_is s _ false (by omega) (HT.out.grown G1.out).2 (HT.out.grown G1.out).1.2 hls).mono ?_
    rintro e w2 ⟨rfl, hg2⟩
    have G2 := Lib.hid (gtrans G1.out hg2)
    clear hg2 G1
    go_wp2_with fail
    go_ret
    exact ⟨rfl, G2.out⟩
  | true =>
    go_wp2_with fail
    refine (letters_is s _ true (by omega) (HT.out.grown G1.out).2 (HT.out.grown G1.out).1.2 hls).mono ?_
    rintro e w2 ⟨rfl, hg2⟩
    have G2 := Lib.hid (gtrans G1.out hg2)
    clear hg2 G1
    obtain ⟨o, ho⟩ := ex_out (mapD toUpperU s.data.toList)
    have zo := out_size toUpperU ho
    go_wp2_with fail
    refine (implUpper_is s _ o (by omega) (HT.out.grown G2.out).1 ho).mono ?_
    rintro e w3 ⟨rfl, hg3⟩
    have G3 := Lib.hid (gtrans G2.out hg3)
    clear hg3 G2
    go_wp2_with fail
    refine (turnedUpper_is s _ o (by omega) (HT.out.grown G3.out).1 ho).mono ?_
    rintro e w4 ⟨rfl, hg4⟩
    have G4 := Lib.hid (gtrans G3.out hg4)
    clear hg4 G3
    go_wp2_with fail
    go_ret
    exact ⟨rfl, G4.out⟩

set_option maxHeartbeats 2000000 in
theorem exToLower_walk (w : World) (s : ByteArray) (_ : s.size ≤ maxLen) (hT : XTabs w) (hs : s.size ≤ 1048576) :
    Calls Tryd.prog 8 #[.string s] w (TruePost w) := by
  have HT := Lib.hid hT
  clear hT
  go_enter Tryd.func8, Tryd.ntmps8
  go_wp2_with fail
  refine (isLetter_is 97 _ true (by omega) (by omega) HT.out.2 (by decide +kernel)).mono ?_
  rintro e w1 ⟨rfl, hg1⟩
  have G1 := Lib.hid hg1
  clear hg1
  cases hls : lettersB s.data.toList with
  | false =>
    go_wp2_with fail
    refine (letters_is s _ false (by omega) (HT.out.grown G1.out).2 (HT.out.grown G1.out).1.2 hls).mono ?_
    rintro e w2 ⟨rfl, hg2⟩
    have G2 := Lib.hid (gtrans G1.out hg2)
    clear hg2 G1
    go_wp2_with fail
    go_ret
    exact ⟨rfl, G2.out⟩
  | true =>
    go_wp2_with fail
    refine (letters_is s _ true (by omega) (HT.out.grown G1.out).2 (HT.out.grown G1.out).1.2 hls).mono ?_
    rintro e w2 ⟨rfl, hg2⟩
    have G2 := Lib.hid (gtrans G1.out hg2)
    clear hg2 G1
    obtain ⟨o, ho⟩ := ex_out (mapD toLowerU s.data.toList)
    have zo := out_size toLowerU ho
    go_wp2_with fail
    refine (implLower_is s _ o (by omega) (HT.out.grown G2.out).1 ho).mono ?_
    rintro e w3 ⟨rfl, hg3⟩
    have G3 := Lib.hid (gtrans G2.out hg3)
    clear hg3 G2
    go_wp2_with fail
    refine (turnedLower_is s _ o (by omega) (HT.out.grown G3.out).1 ho).mono ?_
    rintro e w4 ⟨rfl, hg4⟩
    have G4 := Lib.hid (gtrans G3.out hg4)
    clear hg4 G3
    go_wp2_with fail
    go_ret
    exact ⟨rfl, G4.out⟩

end Go.Proofs.YtnlbeljdlmgclaaDoor
