/- The law FnRuneText: the case of a letter is that of the text with it alone. Written by gen_lawcase3.py. -/
import Derived.Test.YtnlbeljdlmgclaaDoorLawCase2
namespace Go.Ftx
open Go.Lib
theorem one_text {f : Int → Int} (hf : Turns f) {r : Int} (hr : isChar r) : mapD f (textOf [r]) = textOf [f r] := by
  rw [turns_map hf, chars_textOf [r] (fun x hx => by simp at hx; rw [hx]; exact hr)]
  show textOf [f ((r.toNat : Nat) : Int)] = _
  rw [Int.toNat_of_nonneg hr.1]
end Go.Ftx
namespace Go.Proofs.YtnlbeljdlmgclaaDoor
open Go.RowKit Go.Lib Go.Ftx
theorem rune_str (W : World) (r : Int) : (convert 33 9 (.slice (some ⟨W.heap.size, 0, none⟩) 1 1)).run Tryd.prog (W.alloc (.cells #[.int .i32 r] 21)) = .ok (.string ⟨(textOf [r]).toArray⟩) (W.alloc (.cells #[.int .i32 r] 21)) := by
  have h := run_convert_runes (P := Tryd.prog) (W.alloc (.cells #[.int .i32 r] 21)) 33 9 21 ⟨W.heap.size, 0, none⟩ 1 1 [r] (Nat.le_refl _) Tryd.underlying33 Tryd.underlying21 Tryd.underlying9 (fun j hj => by
    obtain rfl : j = 0 := by simp at hj; omega
    rw [Addr.add_lit, cell_of_heap (heap_alloc_new W _) (0 + 0)]
    rfl)
  rw [show ([r] : List Int).take 1 = [r] from rfl, runes_text] at h
  exact h

theorem runeUpper_isT (r : Int) (w : World) (v : Int) (hT : CaseT w) (h : toUpperU r = v) : Calls Tryd.prog 27 #[.int .i32 r] w fun e w' => e = .returned (.int .i32 v) ∧ w.grownBy w' none :=
  (runeUpper_any w r hT).mono fun _ _ ⟨he, q, hq⟩ => ⟨by rw [he, h], hq ▸ gdrewN (grefl w none) q⟩
theorem runeLower_isT (r : Int) (w : World) (v : Int) (hT : CaseT w) (h : toLowerU r = v) : Calls Tryd.prog 26 #[.int .i32 r] w fun e w' => e = .returned (.int .i32 v) ∧ w.grownBy w' none :=
  (runeLower_any w r hT).mono fun _ _ ⟨he, q, hq⟩ => ⟨by rw [he, h], hq ▸ gdrewN (grefl w none) q⟩
theorem runeTitle_isT (r : Int) (w : World) (v : Int) (hT : CaseT w) (h : toTitleU r = v) : Calls Tryd.prog 21 #[.int .i32 r] w fun e w' => e = .returned (.int .i32 v) ∧ w.grownBy w' none :=
  (runeTitle_any w r hT).mono fun _ _ ⟨he, q, hq⟩ => ⟨by rw [he, h], hq ▸ gdrewN (grefl w none) q⟩
set_option maxHeartbeats 2000000 in
theorem runeText_walk (w : World) (l : List UInt8) (bv : Value) (hb : BytesL w bv l) (hT : XTabs w) :
    Calls Tryd.prog 10 #[bv] w (TruePost w) := by
  have hv := hb.code
  clear hb
  rcases hv.split with ⟨a, len, cap, rfl, hl, hl2⟩ | ⟨⟨a, len, cap, rfl, hl⟩, hC⟩
  · clear hv hT
    have hl' : (1048576 : Int) < (len : Int) := by omega
    go_enter Tryd.func10, Tryd.ntmps10
    go_wp2
    go_ret
    exact ⟨rfl, grefl w none⟩
  · have hl' : ¬ (1048576 : Int) < (len : Int) := by omega
    have HC := Lib.hid hC
    have HT := Lib.hid hT
    clear hv hC hT
    go_enter Tryd.func10, Tryd.ntmps10
    go_wp2_with fail
    refine (drawRuneLower_any _ _ HC.out).mono ?_
    rintro e w1 ⟨r, hr0, hr1, rfl, hg1⟩
    have G1 := Lib.hid hg1
    clear hg1
    clear HC
    cases hl2 : isLetterU r with
    | false =>
      go_wp2_with fail
      refine (isLetter_is r _ false hr0 hr1 (HT.out.grown G1.out).2 hl2).mono ?_
      rintro e w2 ⟨rfl, hg2⟩
      have G2 := Lib.hid (gtrans G1.out hg2)
      clear hg2 G1
      go_wp2_with fail
      refine (implUpper_is _ _ (⟨#[83, 79, 77, 69]⟩ : ByteArray) (by decide) (HT.out.grown G2.out).1 (by decide +kernel)).mono ?_
      rintro e w3 ⟨rfl, hg3⟩
      have G3 := Lib.hid (gtrans G2.out hg3)
      clear hg3 G2
      go_wp2_with fail
      go_ret
      exact ⟨rfl, G3.out⟩
    | true =>
      have hch := letter_char r hr0 hr1 hl2
      go_wp2_with fail
      refine (isLetter_is r _ true hr0 hr1 (HT.out.grown G1.out).2 hl2).mono ?_
      rintro e w2 ⟨rfl, hg2⟩
      have G2 := Lib.hid (gtrans G1.out hg2)
      clear hg2 G1
      have hcv := rune_str w2 r
      have hz4 := textOf_len4 [r]
      have hu := one_text upper_turns hch
      obtain ⟨uv, huv⟩ : ∃ z, toUpperU r = z := ⟨_, rfl⟩
      rw [huv] at hu
      have Cu := Lib.hid fun (W : World) => rune_str W uv
      obtain ⟨ou, hou⟩ : ∃ o : ByteArray, o = ⟨(textOf [uv]).toArray⟩ := ⟨_, rfl⟩
      rw [← hou] at Cu
      have hpu : mapD toUpperU (textOf [r]) = ou.data.toList := by rw [hu, hou]
      have hv := one_text lower_turns hch
      obtain ⟨vv, hvv⟩ : ∃ z, toLowerU r = z := ⟨_, rfl⟩
      rw [hvv] at hv
      have Cv := Lib.hid fun (W : World) => rune_str W vv
      obtain ⟨ov, hov⟩ : ∃ o : ByteArray, o = ⟨(textOf [vv]).toArray⟩ := ⟨_, rfl⟩
      rw [← hov] at Cv
      have hpv : mapD toLowerU (textOf [r]) = ov.data.toList := by rw [hv, hov]
      have ht := one_text title_turns hch
      obtain ⟨tv, htv⟩ : ∃ z, toTitleU r = z := ⟨_, rfl⟩
      rw [htv] at ht
      have Ct := Lib.hid fun (W : World) => rune_str W tv
      obtain ⟨ot, hot⟩ : ∃ o : ByteArray, o = ⟨(textOf [tv]).toArray⟩ := ⟨_, rfl⟩
      rw [← hot] at Ct
      have hpt : mapD toTitleU (textOf [r]) = ot.data.toList := by rw [ht, hot]
      obtain ⟨s, hsd⟩ : ∃ s : ByteArray, s = ⟨(textOf [r]).toArray⟩ := ⟨_, rfl⟩
      rw [← hsd] at hcv
      have hsz : s.size ≤ 4 := by rw [hsd]; show (textOf [r]).toArray.size ≤ 4; rw [List.size_toArray]; simpa using hz4
      have hqu : mapD toUpperU s.data.toList = ou.data.toList := by rw [hsd]; exact hpu
      have hqv : mapD toLowerU s.data.toList = ov.data.toList := by rw [hsd]; exact hpv
      have hqt : mapD toTitleU s.data.toList = ot.data.toList := by rw [hsd]; exact hpt
      have GA := Lib.hid (galloc G2.out (.cells #[.int .i32 r] 21))
      clear hu hv ht hpu hpv hpt hou hov hot hsd hz4 hch
      go_wp2_with fail
      refine (implUpper_is s _ ou (by omega) (HT.out.grown GA.out).1 hqu).mono ?_
      rintro e w3 ⟨rfl, hg3⟩
      have GB := Lib.hid (gtrans GA.out hg3)
      clear hg3 GA
      go_wp2_with fail
      refine (runeUpper_isT r _ uv (HT.out.grown GB.out).1.1 huv).mono ?_
      rintro e w4 ⟨rfl, hg4⟩
      have GC := Lib.hid (gtrans GB.out hg4)
      have hcvu := Cu.out w4
      have GA := Lib.hid (galloc GC.out (.cells #[.int .i32 uv] 21))
      clear hg4 GB GC
      go_wp2_with fail
      refine (implLower_is s _ ov (by omega) (HT.out.grown GA.out).1 hqv).mono ?_
      rintro e w5 ⟨rfl, hg5⟩
      have GB := Lib.hid (gtrans GA.out hg5)
      clear hg5 GA
      go_wp2_with fail
      refine (runeLower_isT r _ vv (HT.out.grown GB.out).1.1 hvv).mono ?_
      rintro e w6 ⟨rfl, hg6⟩
      have GC := Lib.hid (gtrans GB.out hg6)
      have hcvv := Cv.out w6
      have GA := Lib.hid (galloc GC.out (.cells #[.int .i32 vv] 21))
      clear hg6 GB GC
      go_wp2_with fail
      refine (implTitle_is s _ ot (by omega) (HT.out.grown GA.out).1 hqt).mono ?_
      rintro e w7 ⟨rfl, hg7⟩
      have GB := Lib.hid (gtrans GA.out hg7)
      clear hg7 GA
      go_wp2_with fail
      refine (runeTitle_isT r _ tv (HT.out.grown GB.out).1.1 htv).mono ?_
      rintro e w8 ⟨rfl, hg8⟩
      have GC := Lib.hid (gtrans GB.out hg8)
      have hcvt := Ct.out w8
      have GA := Lib.hid (galloc GC.out (.cells #[.int .i32 tv] 21))
      clear hg8 GB GC
      go_wp2_with fail
      go_ret
      exact ⟨rfl, GA.out⟩

end Go.Proofs.YtnlbeljdlmgclaaDoor
