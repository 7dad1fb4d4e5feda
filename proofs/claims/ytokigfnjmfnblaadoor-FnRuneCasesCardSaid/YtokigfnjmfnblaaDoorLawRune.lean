/- The law FnRuneCases: the cases of a code point. Written by gen_lawrune.py. -/
import Derived.Test.YtokigfnjmfnblaaDoorCase
import Derived.Test.YtokigfnjmfnblaaDoorLetT
import Derived.Test.YtokigfnjmfnblaaDoorLow
namespace Go.Proofs.YtokigfnjmfnblaaDoor
open Go.RowKit Go.Lib Go.Ftx
def RTabs (w : World) : Prop := CaseT w ∧ LTabs w
theorem RTabs.grown {w w' : World} (h : RTabs w) (hg : w.grownBy w' none) : RTabs w' := ⟨h.1.grown hg, h.2.grown hg⟩

theorem runeUpper_is (r : Int) (w : World) (v : Int) (hT : CaseT w) (h : toUpperU r = v) : Calls Tryd.prog 16 #[.int .i32 r] w fun e w' => e = .returned (.int .i32 v) ∧ w.grownBy w' none :=
  (runeUpper_any w r hT).mono fun _ _ ⟨he, q, hq⟩ => ⟨by rw [he, h], hq ▸ gdrewN (grefl w none) q⟩
theorem runeLower_is (r : Int) (w : World) (v : Int) (hT : CaseT w) (h : toLowerU r = v) : Calls Tryd.prog 17 #[.int .i32 r] w fun e w' => e = .returned (.int .i32 v) ∧ w.grownBy w' none :=
  (runeLower_any w r hT).mono fun _ _ ⟨he, q, hq⟩ => ⟨by rw [he, h], hq ▸ gdrewN (grefl w none) q⟩
theorem runeTitle_is (r : Int) (w : World) (v : Int) (hT : CaseT w) (h : toTitleU r = v) : Calls Tryd.prog 18 #[.int .i32 r] w fun e w' => e = .returned (.int .i32 v) ∧ w.grownBy w' none :=
  (runeTitle_any w r hT).mono fun _ _ ⟨he, q, hq⟩ => ⟨by rw [he, h], hq ▸ gdrewN (grefl w none) q⟩
theorem specUpper_is (r : Int) (w : World) (v : Int) (h0 : -2147483648 ≤ r) (h1 : r ≤ 2147483647) (h : upperZ r = v) : Calls Tryd.prog 20 #[.int .i32 r] w fun e w' => e = .returned (.int .i32 v) ∧ w = w' := h ▸ upper_any r w h0 h1
theorem specLower_is (r : Int) (w : World) (v : Int) (h0 : -2147483648 ≤ r) (h1 : r ≤ 2147483647) (h : lowerZ r = v) : Calls Tryd.prog 21 #[.int .i32 r] w fun e w' => e = .returned (.int .i32 v) ∧ w = w' := h ▸ lower_any r w h0 h1
theorem letter_small (r : Int) (h0 : 0 ≤ r) (h1 : r ≤ 127) (b : Bool) (hb : (decide (65 ≤ r ∧ r ≤ 90) || decide (97 ≤ r ∧ r ≤ 122)) = b) : isLetterU r = b := by
  obtain ⟨n, rfl⟩ : ∃ n : Nat, r = n := ⟨r.toNat, by omega⟩
  have := List.all_eq_true.1 letter_ascii n (by simp; omega)
  rw [beq_iff_eq] at this
  rw [this, ← hb]
  congr 1 <;> exact decide_eq_decide.2 (by omega)

set_option maxHeartbeats 2000000 in
theorem runeCases_walk (w : World) (l : List UInt8) (bv : Value) (hb : BytesL w bv l) (hT : RTabs w) :
    Calls Tryd.prog 3 #[bv] w (TruePost w) := by
  have hv := hb.code
  clear hb
  rcases hv.split with ⟨a, len, cap, rfl, hl, hl2⟩ | ⟨⟨a, len, cap, rfl, hl⟩, hC⟩
  · clear hv hT
    have hl' : (1048576 : Int) < (len : Int) := by omega
    go_enter Tryd.func3, Tryd.ntmps3
    go_wp2
    go_ret
    exact ⟨rfl, grefl w none⟩
  · have hl' : ¬ (1048576 : Int) < (len : Int) := by omega
    have HC := Lib.hid hC
    have HT := Lib.hid hT
    clear hv hC hT
    go_enter Tryd.func3, Tryd.ntmps3
    go_wp2_with fail
    refine (drawRuneUpper_any _ _ HC.out).mono ?_
    rintro e w1 ⟨r, hr0, hr1, rfl, hg1⟩
    have G1 := Lib.hid hg1
    clear hg1
    clear HC
    have hrr : (r == r) = true := by simp
    by_cases hneg : r < 0
    · skip
      have ho : r < 0 ∨ 1114111 < r := by omega
      have e1 := upper_outside r ho
      have e2 := lower_outside r ho
      have e3 := title_outside r ho
      have e4 := letter_outside r hr0 hr1 ho
      go_wp2_with fail
      refine (runeUpper_is _ _ r (HT.out.grown G1.out).1 e1).mono ?_
      rintro e w2 ⟨rfl, hg2⟩
      have G2 := Lib.hid (gtrans G1.out hg2)
      clear hg2 G1
      go_wp2_with fail
      refine (runeLower_is _ _ r (HT.out.grown G2.out).1 e2).mono ?_
      rintro e w3 ⟨rfl, hg3⟩
      have G3 := Lib.hid (gtrans G2.out hg3)
      clear hg3 G2
      go_wp2_with fail
      refine (runeTitle_is _ _ r (HT.out.grown G3.out).1 e3).mono ?_
      rintro e w4 ⟨rfl, hg4⟩
      have G4 := Lib.hid (gtrans G3.out hg4)
      clear hg4 G3
      go_wp2_with fail
      refine (isLetter_is r _ false (by omega) (by omega) (HT.out.grown G4.out).2 e4).mono ?_
      rintro e w5 ⟨rfl, hg5⟩
      have G5 := Lib.hid (gtrans G4.out hg5)
      clear hg5 G4
      go_wp2_with fail
      go_ret
      exact ⟨rfl, G5.out⟩
    · skip
      by_cases hbig : 1114111 < r
      · have hbig' : r > 1114111 := hbig
        have ho : r < 0 ∨ 1114111 < r := by omega
        have e1 := upper_outside r ho
        have e2 := lower_outside r ho
        have e3 := title_outside r ho
        have e4 := letter_outside r hr0 hr1 ho
        go_wp2_with fail
        refine (runeUpper_is _ _ r (HT.out.grown G1.out).1 e1).mono ?_
        rintro e w2 ⟨rfl, hg2⟩
        have G2 := Lib.hid (gtrans G1.out hg2)
        clear hg2 G1
        go_wp2_with fail
        refine (runeLower_is _ _ r (HT.out.grown G2.out).1 e2).mono ?_
        rintro e w3 ⟨rfl, hg3⟩
        have G3 := Lib.hid (gtrans G2.out hg3)
        clear hg3 G2
        go_wp2_with fail
        refine (runeTitle_is _ _ r (HT.out.grown G3.out).1 e3).mono ?_
        rintro e w4 ⟨rfl, hg4⟩
        have G4 := Lib.hid (gtrans G3.out hg4)
        clear hg4 G3
        go_wp2_with fail
        refine (isLetter_is r _ false (by omega) (by omega) (HT.out.grown G4.out).2 e4).mono ?_
        rintro e w5 ⟨rfl, hg5⟩
        have G5 := Lib.hid (gtrans G4.out hg5)
        clear hg5 G4
        go_wp2_with fail
        go_ret
        exact ⟨rfl, G5.out⟩
      · have hbig' : ¬ r > 1114111 := hbig
        by_cases has : 127 < r
        · have has' : r > 127 := has
          have hc : toUpperU 97 = 65 := by decide +kernel
          go_wp2_with fail
          refine (runeUpper_is _ _ 65 (HT.out.grown G1.out).1 hc).mono ?_
          rintro e w2 ⟨rfl, hg2⟩
          have G2 := Lib.hid (gtrans G1.out hg2)
          clear hg2 G1
          go_wp2_with fail
          go_ret
          exact ⟨rfl, G2.out⟩
        · have has' : ¬ r > 127 := has
          by_cases hlo : 97 ≤ r ∧ r ≤ 122
          · skip
            have eU : toUpperU r = r - 32 := by unfold toUpperU; rw [if_pos (by omega), if_pos (by omega)]
            have eL : toLowerU r = r := by unfold toLowerU; rw [if_pos (by omega), if_neg (by omega)]
            have eT : toTitleU r = r - 32 := by unfold toTitleU; rw [if_pos (by omega), if_pos (by omega)]
            have sU : upperZ r = r - 32 := by unfold upperZ; rw [if_pos (by omega)]
            have sL : lowerZ r = r := by unfold lowerZ; rw [if_neg (by omega)]
            have eI : isLetterU r = true := letter_small r (by omega) (by omega) _ (by rw [decide_eq_true (show 97 ≤ r ∧ r ≤ 122 by omega), Bool.or_true])
            obtain ⟨u, hu⟩ : ∃ u, u = r - 32 := ⟨_, rfl⟩
            rw [← hu] at eU eT sU
            have hub : (u != r) = true := by rw [bne_iff_ne]; omega
            have huu : (u == u) = true := by simp
            clear hu
            have hnb : (r != r) = false := by simp
            go_wp2_with fail
            refine (specUpper_is r _ u hr0 hr1 sU).mono ?_
            rintro e w' ⟨rfl, rfl⟩
            go_wp2_with fail
            refine (runeUpper_is _ _ u (HT.out.grown G1.out).1 eU).mono ?_
            rintro e w2 ⟨rfl, hg2⟩
            have G2 := Lib.hid (gtrans G1.out hg2)
            clear hg2 G1
            go_wp2_with fail
            refine (specUpper_is r _ u hr0 hr1 sU).mono ?_
            rintro e w' ⟨rfl, rfl⟩
            go_wp2_with fail
            refine (runeLower_is _ _ r (HT.out.grown G2.out).1 eL).mono ?_
            rintro e w3 ⟨rfl, hg3⟩
            have G3 := Lib.hid (gtrans G2.out hg3)
            clear hg3 G2
            go_wp2_with fail
            refine (specLower_is r _ r hr0 hr1 sL).mono ?_
            rintro e w' ⟨rfl, rfl⟩
            go_wp2_with fail
            refine (runeTitle_is _ _ u (HT.out.grown G3.out).1 eT).mono ?_
            rintro e w4 ⟨rfl, hg4⟩
            have G4 := Lib.hid (gtrans G3.out hg4)
            clear hg4 G3
            go_wp2_with fail
            refine (specUpper_is r _ u hr0 hr1 sU).mono ?_
            rintro e w' ⟨rfl, rfl⟩
            go_wp2_with fail
            refine (isLetter_is r _ true (by omega) (by omega) (HT.out.grown G4.out).2 eI).mono ?_
            rintro e w5 ⟨rfl, hg5⟩
            have G5 := Lib.hid (gtrans G4.out hg5)
            clear hg5 G4
            go_wp2_with fail
            go_ret
            exact ⟨rfl, G5.out⟩
          · skip
            by_cases hup : 65 ≤ r ∧ r ≤ 90
            · skip
              have eU : toUpperU r = r := by unfold toUpperU; rw [if_pos (by omega), if_neg (by omega)]
              have eL : toLowerU r = r + 32 := by unfold toLowerU; rw [if_pos (by omega), if_pos (by omega)]
              have eT : toTitleU r = r := by unfold toTitleU; rw [if_pos (by omega), if_neg (by omega)]
              have sU : upperZ r = r := by unfold upperZ; rw [if_neg (by omega)]
              have sL : lowerZ r = r + 32 := by unfold lowerZ; rw [if_pos (by omega)]
              have eI : isLetterU r = true := letter_small r (by omega) (by omega) _ (by rw [decide_eq_true (show 65 ≤ r ∧ r ≤ 90 by omega), Bool.true_or])
              obtain ⟨u, hu⟩ : ∃ u, u = r + 32 := ⟨_, rfl⟩
              rw [← hu] at eL sL
              have hub : (u != r) = true := by rw [bne_iff_ne]; omega
              have huu : (u == u) = true := by simp
              clear hu
              have hnb : (r != r) = false := by simp
              go_wp2_with fail
              refine (specUpper_is r _ r hr0 hr1 sU).mono ?_
              rintro e w' ⟨rfl, rfl⟩
              go_wp2_with fail
              refine (specLower_is r _ u hr0 hr1 sL).mono ?_
              rintro e w' ⟨rfl, rfl⟩
              go_wp2_with fail
              refine (runeUpper_is _ _ r (HT.out.grown G1.out).1 eU).mono ?_
              rintro e w2 ⟨rfl, hg2⟩
              have G2 := Lib.hid (gtrans G1.out hg2)
              clear hg2 G1
              go_wp2_with fail
              refine (specUpper_is r _ r hr0 hr1 sU).mono ?_
              rintro e w' ⟨rfl, rfl⟩
              go_wp2_with fail
              refine (runeLower_is _ _ u (HT.out.grown G2.out).1 eL).mono ?_
              rintro e w3 ⟨rfl, hg3⟩
              have G3 := Lib.hid (gtrans G2.out hg3)
              clear hg3 G2
              go_wp2_with fail
              refine (specLower_is r _ u hr0 hr1 sL).mono ?_
              rintro e w' ⟨rfl, rfl⟩
              go_wp2_with fail
              refine (runeTitle_is _ _ r (HT.out.grown G3.out).1 eT).mono ?_
              rintro e w4 ⟨rfl, hg4⟩
              have G4 := Lib.hid (gtrans G3.out hg4)
              clear hg4 G3
              go_wp2_with fail
              refine (specUpper_is r _ r hr0 hr1 sU).mono ?_
              rintro e w' ⟨rfl, rfl⟩
              go_wp2_with fail
              refine (isLetter_is r _ true (by omega) (by omega) (HT.out.grown G4.out).2 eI).mono ?_
              rintro e w5 ⟨rfl, hg5⟩
              have G5 := Lib.hid (gtrans G4.out hg5)
              clear hg5 G4
              go_wp2_with fail
              go_ret
              exact ⟨rfl, G5.out⟩
            · skip
              have eU : toUpperU r = r := by unfold toUpperU; rw [if_pos (by omega), if_neg (by omega)]
              have eL : toLowerU r = r := by unfold toLowerU; rw [if_pos (by omega), if_neg (by omega)]
              have eT : toTitleU r = r := by unfold toTitleU; rw [if_pos (by omega), if_neg (by omega)]
              have sU : upperZ r = r := by unfold upperZ; rw [if_neg (by omega)]
              have sL : lowerZ r = r := by unfold lowerZ; rw [if_neg (by omega)]
              have eI : isLetterU r = false := letter_small r (by omega) (by omega) _ (by rw [decide_eq_false (show ¬ (65 ≤ r ∧ r ≤ 90) by omega), decide_eq_false (show ¬ (97 ≤ r ∧ r ≤ 122) by omega)]; rfl)
              have hnb : (r != r) = false := by simp
              go_wp2_with fail
              refine (specUpper_is r _ r hr0 hr1 sU).mono ?_
              rintro e w' ⟨rfl, rfl⟩
              go_wp2_with fail
              refine (specLower_is r _ r hr0 hr1 sL).mono ?_
              rintro e w' ⟨rfl, rfl⟩
              go_wp2_with fail
              refine (runeUpper_is _ _ r (HT.out.grown G1.out).1 eU).mono ?_
              rintro e w2 ⟨rfl, hg2⟩
              have G2 := Lib.hid (gtrans G1.out hg2)
              clear hg2 G1
              go_wp2_with fail
              refine (specUpper_is r _ r hr0 hr1 sU).mono ?_
              rintro e w' ⟨rfl, rfl⟩
              go_wp2_with fail
              refine (runeLower_is _ _ r (HT.out.grown G2.out).1 eL).mono ?_
              rintro e w3 ⟨rfl, hg3⟩
              have G3 := Lib.hid (gtrans G2.out hg3)
              clear hg3 G2
              go_wp2_with fail
              refine (specLower_is r _ r hr0 hr1 sL).mono ?_
              rintro e w' ⟨rfl, rfl⟩
              go_wp2_with fail
              refine (runeTitle_is _ _ r (HT.out.grown G3.out).1 eT).mono ?_
              rintro e w4 ⟨rfl, hg4⟩
              have G4 := Lib.hid (gtrans G3.out hg4)
              clear hg4 G3
              go_wp2_with fail
              refine (specUpper_is r _ r hr0 hr1 sU).mono ?_
              rintro e w' ⟨rfl, rfl⟩
              go_wp2_with fail
              refine (isLetter_is r _ false (by omega) (by omega) (HT.out.grown G4.out).2 eI).mono ?_
              rintro e w5 ⟨rfl, hg5⟩
              have G5 := Lib.hid (gtrans G4.out hg5)
              clear hg5 G4
              go_wp2_with fail
              go_ret
              exact ⟨rfl, G5.out⟩

end Go.Proofs.YtokigfnjmfnblaaDoor
