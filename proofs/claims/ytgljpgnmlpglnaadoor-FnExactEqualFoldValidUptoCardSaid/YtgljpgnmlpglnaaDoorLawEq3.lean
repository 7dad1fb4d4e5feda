/- Laws on EqualFold, the third part: the exact laws on strings, and characters exchanged. Written by gen_laweq3.py. -/
import Derived.Test.YtgljpgnmlpglnaaDoorLawEq2
import Derived.Test.YtgljpgnmlpglnaaDoorTurn
namespace Go.Ftx
open Go.Lib
theorem fold_char (r : Int) (h : isChar r) : isChar (foldU r) := by
  rcases shape r with e | ⟨v, _⟩
  · rw [e]; exact h
  · have := (okV_iff _).1 v
    exact ⟨by omega, by omega, by omega⟩
theorem kinL_folded : ∀ rs : List Nat, (∀ r ∈ rs, isChar (r : Int)) → kinL rs (rs.map fun (r : Nat) => (foldU (r : Int)).toNat) = true
  | [], _ => rfl
  | r :: rs, h => by
    have hf := fold_char (r : Int) (h r (by simp))
    rw [List.map_cons, kinL, Int.toNat_of_nonneg hf.1, kinB_fold, Bool.true_and]
    exact kinL_folded rs fun x hx => h x (by simp [hx])
def swapL (l : List UInt8) : List UInt8 := textOf ((chars l).map fun (r : Nat) => foldU (r : Int))
theorem chars_swap (l : List UInt8) : chars (swapL l) = (chars l).map fun (r : Nat) => (foldU (r : Int)).toNat := by
  unfold swapL
  rw [chars_textOf _ (fun z hz => by obtain ⟨r, hr, rfl⟩ := List.mem_map.1 hz; exact fold_char _ (chars_char l r hr)), List.map_map]
  rfl
theorem eqF_swap (l : List UInt8) : eqF l (swapL l) = true := by
  unfold eqF
  rw [chars_swap]
  exact kinL_folded _ (chars_char l)
theorem eqF_congr {l m : List UInt8} (h : eqF l m = true) (n : List UInt8) : eqF n l = eqF n m := kinL_congr h (chars n)
theorem textOf_len : ∀ zs : List Int, (textOf zs).length ≤ 4 * zs.length
  | [] => by simp [textOf]
  | z :: zs => by
    have h := textOf_len zs
    have h1 := (encodeRune_length z).2
    show (encodeRune z ++ textOf zs).length ≤ _
    rw [List.length_append, List.length_cons]
    omega
theorem swap_size (l : List UInt8) : (⟨(swapL l).toArray⟩ : ByteArray).size ≤ 4 * l.length := by
  have h1 := textOf_len ((chars l).map fun (r : Nat) => foldU (r : Int))
  have h2 := chars_length l
  rw [List.length_map] at h1
  show (swapL l).toArray.size ≤ _
  rw [List.size_toArray]
  unfold swapL
  omega
end Go.Ftx
namespace Go.Proofs.YtgljpgnmlpglnaaDoor
open Go.RowKit Go.Lib Go.Ftx
theorem swapped_is (s : ByteArray) (w : World) (hs : s.size ≤ 70368744177664) (hT : EqTabs w) :
    Calls Tryd.prog 20 #[.string s] w (StrPost w (swapL s.data.toList)) := swapped_any s w hs hT.1
theorem kinAll_is (xs ys : List Nat) (g1 g2 c1 c2 : Nat) (w : World) (b : Bool) (hb : kinL xs ys = b) (h1 : RunesAt w g1 xs) (h2 : RunesAt w g2 ys) (hl1 : xs.length ≤ 4611686018427387904) (hT : EqTabs w) :
    Calls Tryd.prog 21 #[.slice (some ⟨g1, 0, none⟩) xs.length c1, .slice (some ⟨g2, 0, none⟩) ys.length c2] w (BoolPost w b) := hb ▸ kinAll_any xs ys g1 g2 c1 c2 w h1 h2 hl1 hT.1

set_option maxHeartbeats 2000000 in
theorem exEq_walk (w : World) (s : ByteArray) (_ : s.size ≤ maxLen) (t : ByteArray) (_ : t.size ≤ maxLen) (hT : EqTabs w) (hs : s.size ≤ 1048576) (ht : t.size ≤ 1048576) :
    Calls Tryd.prog 10 #[.string s, .string t] w (TruePost w) := by
  have HT := Lib.hid hT
  clear hT
  go_enter Tryd.func10, Tryd.ntmps10
  obtain ⟨b, hb⟩ : ∃ b, eqF s.data.toList t.data.toList = b := ⟨_, rfl⟩
  have hlc := chars_length s.data.toList
  rw [← Lib.size_eq] at hlc
  go_wp2_with fail
  refine (eq_call s t _ b (by omega) (by omega) HT.out hb).mono ?_
  rintro e w1 ⟨rfl, hg1⟩
  have G1 := Lib.hid hg1
  clear hg1
  go_wp2_with fail
  refine (chars_any s _ (by omega)).mono ?_
  rintro e w2 ⟨g1, c1, rfl, ho1, hg2⟩
  have R1 := Lib.hid (runesAt_of ho1)
  clear ho1
  have G2 := Lib.hid (gtrans G1.out hg2)
  clear hg2 G1
  go_wp2_with fail
  refine (chars_any t _ (by omega)).mono ?_
  rintro e w3 ⟨g2, c2, rfl, ho2, hg3⟩
  have R2 := Lib.hid (runesAt_of ho2)
  have R1' := Lib.hid (R1.out.grown hg3)
  clear ho2 R1
  have G3 := Lib.hid (gtrans G2.out hg3)
  clear hg3 G2
  go_wp2_with fail
  refine (kinAll_is _ _ g1 g2 _ _ _ b hb R1'.out R2.out (by omega) (HT.out.grown G3.out)).mono ?_
  rintro e w4 ⟨rfl, hg4⟩
  have G4 := Lib.hid (gtrans G3.out hg4)
  clear hg4 G3
  have hbb : (b == b) = true := by simp
  go_wp2_with fail
  go_ret
  exact ⟨rfl, G4.out⟩

set_option maxHeartbeats 2000000 in
theorem exEqValid_walk (w : World) (s : ByteArray) (_ : s.size ≤ maxLen) (t : ByteArray) (_ : t.size ≤ maxLen) (hT : EqTabs w) (hs : s.size ≤ 1048576) (ht : t.size ≤ 1048576) :
    Calls Tryd.prog 11 #[.string s, .string t] w (TruePost w) := by
  have HT := Lib.hid hT
  clear hT
  go_enter Tryd.func11, Tryd.ntmps11
  cases hvs : Lib.validD s.data.toList with
  | false =>
    go_wp2_with fail
    refine (valid_is s _ false (by omega) HT.out hvs).mono ?_
    rintro e w1 ⟨rfl, hg1⟩
    have G1 := Lib.hid hg1
    clear hg1
    go_wp2_with fail
    go_ret
    exact ⟨rfl, G1.out⟩
  | true =>
    go_wp2_with fail
    refine (valid_is s _ true (by omega) HT.out hvs).mono ?_
    rintro e w1 ⟨rfl, hg1⟩
    have G1 := Lib.hid hg1
    clear hg1
    cases hvt : Lib.validD t.data.toList with
    | false =>
      go_wp2_with fail
      refine (valid_is t _ false (by omega) (HT.out.grown G1.out) hvt).mono ?_
      rintro e w2 ⟨rfl, hg2⟩
      have G2 := Lib.hid (gtrans G1.out hg2)
      clear hg2 G1
      go_wp2_with fail
      go_ret
      exact ⟨rfl, G2.out⟩
    | true =>
      go_wp2_with fail
      refine (valid_is t _ true (by omega) (HT.out.grown G1.out) hvt).mono ?_
      rintro e w2 ⟨rfl, hg2⟩
      have G2 := Lib.hid (gtrans G1.out hg2)
      clear hg2 G1
      obtain ⟨b, hb⟩ : ∃ b, eqF s.data.toList t.data.toList = b := ⟨_, rfl⟩
      have hlc := chars_length s.data.toList
      rw [← Lib.size_eq] at hlc
      go_wp2_with fail
      refine (eq_call s t _ b (by omega) (by omega) (HT.out.grown G2.out) hb).mono ?_
      rintro e w3 ⟨rfl, hg3⟩
      have G3 := Lib.hid (gtrans G2.out hg3)
      clear hg3 G2
      go_wp2_with fail
      refine (chars_any s _ (by omega)).mono ?_
      rintro e w4 ⟨g1, c1, rfl, ho1, hg4⟩
      have R1 := Lib.hid (runesAt_of ho1)
      clear ho1
      have G4 := Lib.hid (gtrans G3.out hg4)
      clear hg4 G3
      go_wp2_with fail
      refine (chars_any t _ (by omega)).mono ?_
      rintro e w5 ⟨g2, c2, rfl, ho2, hg5⟩
      have R2 := Lib.hid (runesAt_of ho2)
      have R1' := Lib.hid (R1.out.grown hg5)
      clear ho2 R1
      have G5 := Lib.hid (gtrans G4.out hg5)
      clear hg5 G4
      go_wp2_with fail
      refine (kinAll_is _ _ g1 g2 _ _ _ b hb R1'.out R2.out (by omega) (HT.out.grown G5.out)).mono ?_
      rintro e w6 ⟨rfl, hg6⟩
      have G6 := Lib.hid (gtrans G5.out hg6)
      clear hg6 G5
      have hbb : (b == b) = true := by simp
      go_wp2_with fail
      go_ret
      exact ⟨rfl, G6.out⟩

set_option maxHeartbeats 2000000 in
theorem exEqAscii_walk (w : World) (s : ByteArray) (_ : s.size ≤ maxLen) (t : ByteArray) (_ : t.size ≤ maxLen) (hT : EqTabs w) (hs : s.size ≤ 140737488351232) (ht : t.size ≤ 140737488351232) :
    Calls Tryd.prog 9 #[.string s, .string t] w (TruePost w) := by
  have HT := Lib.hid hT
  clear hT
  go_enter Tryd.func9, Tryd.ntmps9
  cases has : asciiB s.data.toList with
  | false =>
    go_wp2_with fail
    refine (ascii_is s _ false (by omega) has).mono ?_
    rintro e w' ⟨rfl, rfl⟩
    go_wp2_with fail
    go_ret
    exact ⟨rfl, grefl w none⟩
  | true =>
    go_wp2_with fail
    refine (ascii_is s _ true (by omega) has).mono ?_
    rintro e w' ⟨rfl, rfl⟩
    cases hat : asciiB t.data.toList with
    | false =>
      go_wp2_with fail
      refine (ascii_is t _ false (by omega) hat).mono ?_
      rintro e w' ⟨rfl, rfl⟩
      go_wp2_with fail
      go_ret
      exact ⟨rfl, grefl w none⟩
    | true =>
      go_wp2_with fail
      refine (ascii_is t _ true (by omega) hat).mono ?_
      rintro e w' ⟨rfl, rfl⟩
      go_wp2_with fail
      refine (eq_call s t _ _ (by omega) (by omega) HT.out rfl).mono ?_
      rintro e w1 ⟨rfl, hg1⟩
      have G1 := Lib.hid hg1
      clear hg1
      go_wp2_with fail
      refine (lowerText_any s _ (by omega)).mono ?_
      rintro e w2 ⟨rfl, hg2⟩
      have G2 := Lib.hid (gtrans G1.out hg2)
      clear hg2 G1
      go_wp2_with fail
      refine (lowerText_any t _ (by omega)).mono ?_
      rintro e w3 ⟨rfl, hg3⟩
      have G3 := Lib.hid (gtrans G2.out hg3)
      clear hg3 G2
      have hcmp := eqF_ascii s.data.toList t.data.toList has hat
      go_wp2_with fail
      go_ret
      exact ⟨by show Ending.returned (.bool (decide (_ = _) == (_ == _))) = _; rw [dec_beq], G3.out⟩

set_option maxHeartbeats 2000000 in
theorem foldThree_walk (w : World) (l : List UInt8) (bv : Value) (hb : BytesL w bv l) (hT : EqTabs w) :
    Calls Tryd.prog 8 #[bv] w (TruePost w) := by
  have hv := hb.code
  clear hb
  rcases hv.split with ⟨a, len, cap, rfl, hl, hl2⟩ | ⟨⟨a, len, cap, rfl, hl⟩, hC⟩
  · clear hv hT
    have hl' : (1048576 : Int) < (len : Int) := by omega
    go_enter Tryd.func8, Tryd.ntmps8
    go_wp2
    go_ret
    exact ⟨rfl, grefl w none⟩
  · have hl' : ¬ (1048576 : Int) < (len : Int) := by omega
    have HC := Lib.hid hC
    have HT := Lib.hid hT
    clear hv hC hT
    go_enter Tryd.func8, Tryd.ntmps8
    go_wp2_with fail
    refine (drawPair_any _ _ HC.out).mono ?_
    rintro e w1 ⟨s, t, hs, ht, rfl, hg1⟩
    have G1 := Lib.hid hg1
    clear hg1
    clear HC
    have hsum : s.size + t.size ≤ 9223372036854775807 := by omega
    cases hvs : Lib.validD s.data.toList with
    | false =>
      have hne : ((s ++ t).toList == ([] : List UInt8)) = false := app_ne s t (Or.inl (validD_ne hvs))
      go_wp2_with fail
      refine (valid_is s _ false (by omega) (HT.out.grown G1.out) hvs).mono ?_
      rintro e w2 ⟨rfl, hg2⟩
      have G2 := Lib.hid (gtrans G1.out hg2)
      clear hg2 G1
      go_wp2_with fail
      refine (eq_call _ _ _ true (by decide) (by decide) (HT.out.grown G2.out) (eqF_refl _)).mono ?_
      rintro e w3 ⟨rfl, hg3⟩
      have G3 := Lib.hid (gtrans G2.out hg3)
      clear hg3 G2
      go_wp2_with fail
      go_ret
      exact ⟨rfl, G3.out⟩
    | true =>
      go_wp2_with fail
      refine (valid_is s _ true (by omega) (HT.out.grown G1.out) hvs).mono ?_
      rintro e w2 ⟨rfl, hg2⟩
      have G2 := Lib.hid (gtrans G1.out hg2)
      clear hg2 G1
      cases hvt : Lib.validD t.data.toList with
      | false =>
        have hne : ((s ++ t).toList == ([] : List UInt8)) = false := app_ne s t (Or.inr (validD_ne hvt))
        go_wp2_with fail
        refine (valid_is t _ false (by omega) (HT.out.grown G2.out) hvt).mono ?_
        rintro e w3 ⟨rfl, hg3⟩
        have G3 := Lib.hid (gtrans G2.out hg3)
        clear hg3 G2
        go_wp2_with fail
        refine (eq_call _ _ _ true (by decide) (by decide) (HT.out.grown G3.out) (eqF_refl _)).mono ?_
        rintro e w4 ⟨rfl, hg4⟩
        have G4 := Lib.hid (gtrans G3.out hg4)
        clear hg4 G3
        go_wp2_with fail
        go_ret
        exact ⟨rfl, G4.out⟩
      | true =>
        go_wp2_with fail
        refine (valid_is t _ true (by omega) (HT.out.grown G2.out) hvt).mono ?_
        rintro e w3 ⟨rfl, hg3⟩
        have G3 := Lib.hid (gtrans G2.out hg3)
        clear hg3 G2
        have hsz := swap_size t.data.toList
        have hsw := eqF_swap t.data.toList
        have hcg := eqF_congr hsw s.data.toList
        rw [← Lib.size_eq] at hsz
        obtain ⟨b, hb⟩ : ∃ b, eqF s.data.toList t.data.toList = b := ⟨_, rfl⟩
        rw [hb] at hcg
        go_wp2_with fail
        refine (swapped_is t _ (by omega) (HT.out.grown G3.out)).mono ?_
        rintro e w4 ⟨rfl, hg4⟩
        have G4 := Lib.hid (gtrans G3.out hg4)
        clear hg4 G3
        generalize hu : (⟨(swapL t.data.toList).toArray⟩ : ByteArray) = u at *
        have hul : u.data.toList = swapL t.data.toList := by rw [← hu]
        rw [← hul] at hsw hcg
        clear hu hul
        go_wp2_with fail
        refine (eq_call t u _ true (by omega) (by omega) (HT.out.grown G4.out) hsw).mono ?_
        rintro e w5 ⟨rfl, hg5⟩
        have G5 := Lib.hid (gtrans G4.out hg5)
        clear hg5 G4
        go_wp2_with fail
        refine (eq_call s u _ b (by omega) (by omega) (HT.out.grown G5.out) hcg.symm).mono ?_
        rintro e w6 ⟨rfl, hg6⟩
        have G6 := Lib.hid (gtrans G5.out hg6)
        clear hg6 G5
        go_wp2_with fail
        refine (eq_call s t _ b (by omega) (by omega) (HT.out.grown G6.out) hb).mono ?_
        rintro e w7 ⟨rfl, hg7⟩
        have G7 := Lib.hid (gtrans G6.out hg7)
        clear hg7 G6
        have hbb : (b == b) = true := by simp
        go_wp2_with fail
        go_ret
        exact ⟨rfl, G7.out⟩

end Go.Proofs.YtgljpgnmlpglnaaDoor
