/- Laws on EqualFold of strings drawn from an input, the second part. Written by gen_laweq2.py. -/
import Derived.Test.YtgljpgnmlpglnaaDoorLawEq
namespace Go.Proofs.YtgljpgnmlpglnaaDoor
open Go.RowKit Go.Lib Go.Ftx
theorem ascii_is (s : ByteArray) (w : World) (b : Bool) (hs : s.size ≤ 4611686018427387904) (h : asciiB s.data.toList = b) :
    Calls Tryd.prog 16 #[.string s] w fun e w' => e = .returned (.bool b) ∧ w = w' := h ▸ ascii_any s w hs
theorem valid_is (s : ByteArray) (w : World) (b : Bool) (hs : s.size ≤ 9223372036854775807) (hT : EqTabs w) (h : Lib.validD s.data.toList = b) :
    Calls Tryd.prog 18 #[.string s] w (BoolPost w b) := h ▸ valid_any s w hs hT.2
theorem dec_beq (l m : List UInt8) : (decide (l = m) == (l == m)) = true := by
  cases h : (l == m) with
  | true => rw [eq_of_beq h]; simp
  | false => have := ne_of_beq_false h; simp [this]
theorem validD_ne {l : List UInt8} (h : Lib.validD l = false) : l ≠ [] := by
  rintro rfl
  exact absurd h (by decide)
theorem eqF_more (s x : ByteArray) (h : Lib.validD s.data.toList = true) (hx : (chars x.data.toList).length = 1) : eqF s.data.toList (s ++ x).data.toList = false := by
  rw [data_app]
  unfold eqF
  rw [(chars_valid_append _ _ _ (Nat.le_refl _) h).1]
  refine kinL_len _ _ ?_
  rw [List.length_append]
  omega
theorem eqF_ahead (t x : ByteArray) (hx : (chars x.data.toList).length = 1) (h : Lib.validD x.data.toList = true) : eqF (x ++ t).data.toList t.data.toList = false := by
  rw [data_app]
  unfold eqF
  rw [(chars_valid_append _ _ _ (Nat.le_refl _) h).1]
  refine kinL_len _ _ ?_
  rw [List.length_append]
  omega
theorem size_more (s x : ByteArray) (hs : s.size ≤ 1048676) (hx : x.size = 1) : (s ++ x).size ≤ 4611686018427387904 := by rw [ByteArray.size_append]; omega
theorem size_ahead (t x : ByteArray) (hs : t.size ≤ 1048676) (hx : x.size = 1) : (x ++ t).size ≤ 4611686018427387904 := by rw [ByteArray.size_append]; omega
theorem size_two {s t : ByteArray} (hs : s.size ≤ 1048676) (ht : t.size ≤ 1048676) : (s ++ t).size ≤ 9223372036854775807 := by rw [ByteArray.size_append]; omega
theorem size_two' {s t : ByteArray} (hs : s.size ≤ 1048676) (ht : t.size ≤ 1048676) : (s ++ t).size ≤ 4611686018427387904 := by rw [ByteArray.size_append]; omega
theorem eqF_app {s t : ByteArray} (u v : ByteArray) (hs : Lib.validD s.data.toList = true) (ht : Lib.validD t.data.toList = true) :
    eqF (s ++ u).data.toList (t ++ v).data.toList = kinL (chars s.data.toList ++ chars u.data.toList) (chars t.data.toList ++ chars v.data.toList) := by
  rw [data_app, data_app]
  unfold eqF
  rw [(chars_valid_append _ _ _ (Nat.le_refl _) hs).1, (chars_valid_append _ _ _ (Nat.le_refl _) ht).1]
theorem eqF_join_no {s t : ByteArray} (u : ByteArray) (hs : Lib.validD s.data.toList = true) (ht : Lib.validD t.data.toList = true) (h : eqF s.data.toList t.data.toList = false) :
    eqF (s ++ u).data.toList (t ++ u).data.toList = false := by
  rw [eqF_app u u hs ht]
  by_cases hl : (chars s.data.toList).length = (chars t.data.toList).length
  · have h' : kinL (chars s.data.toList) (chars t.data.toList) = false := h
    rw [kinL_append _ _ _ _ hl, h']
    rfl
  · refine kinL_len _ _ ?_
    rw [List.length_append, List.length_append]
    omega
theorem eqF_join {s t : ByteArray} (u v : ByteArray) (hs : Lib.validD s.data.toList = true) (ht : Lib.validD t.data.toList = true) (h : eqF s.data.toList t.data.toList = true) :
    eqF (s ++ u).data.toList (t ++ v).data.toList = eqF u.data.toList v.data.toList := by
  have h' : kinL (chars s.data.toList) (chars t.data.toList) = true := h
  rw [eqF_app u v hs ht, kinL_append _ _ _ _ (kinL_length _ _ h'), h', Bool.true_and]
  rfl
theorem eqF_join2 {u v s t : ByteArray} (hu : Lib.validD u.data.toList = true) (hv : Lib.validD v.data.toList = true) (h : eqF s.data.toList t.data.toList = true) :
    eqF (u ++ s).data.toList (v ++ t).data.toList = eqF u.data.toList v.data.toList := by
  have h' : kinL (chars s.data.toList) (chars t.data.toList) = true := h
  have hl := kinL_length _ _ h'
  rw [eqF_app s t hu hv]
  unfold eqF
  by_cases he : (chars u.data.toList).length = (chars v.data.toList).length
  · rw [kinL_append _ _ _ _ he, h', Bool.and_true]
  · rw [kinL_len _ _ he]
    refine kinL_len _ _ ?_
    rw [List.length_append, List.length_append]
    omega
theorem app_ne (s t : ByteArray) (h : s.data.toList ≠ [] ∨ t.data.toList ≠ []) : ((s ++ t).toList == ([] : List UInt8)) = false := by
  rw [ByteArray.toList_eq, data_app]
  rcases h with h | h
  · cases e : s.data.toList with
    | nil => exact absurd e h
    | cons a l => rfl
  · cases e : t.data.toList with
    | nil => exact absurd e h
    | cons a l => cases s.data.toList <;> rfl

set_option maxHeartbeats 2000000 in
theorem foldAsciiEq_walk (w : World) (l : List UInt8) (bv : Value) (hb : BytesL w bv l) (hT : EqTabs w) :
    Calls Tryd.prog 5 #[bv] w (TruePost w) := by
  have hv := hb.code
  clear hb
  rcases hv.split with ⟨a, len, cap, rfl, hl, hl2⟩ | ⟨⟨a, len, cap, rfl, hl⟩, hC⟩
  · clear hv hT
    have hl' : (1048576 : Int) < (len : Int) := by omega
    go_enter Tryd.func5, Tryd.ntmps5
    go_wp2
    go_ret
    exact ⟨rfl, grefl w none⟩
  · have hl' : ¬ (1048576 : Int) < (len : Int) := by omega
    have HC := Lib.hid hC
    have HT := Lib.hid hT
    clear hv hC hT
    go_enter Tryd.func5, Tryd.ntmps5
    go_wp2_with fail
    refine (drawPair_any _ _ HC.out).mono ?_
    rintro e w1 ⟨s, t, hs, ht, rfl, hg1⟩
    have G1 := Lib.hid hg1
    clear hg1
    clear HC
    have hsum : s.size + t.size ≤ 9223372036854775807 := by omega
    cases has : asciiB s.data.toList with
    | false =>
      have hne : ((s ++ t).toList == ([] : List UInt8)) = false := app_ne s t (Or.inl (asciiB_ne has))
      go_wp2_with fail
      refine (ascii_is s _ false (by omega) has).mono ?_
      rintro e w' ⟨rfl, rfl⟩
      go_wp2_with fail
      refine (eq_call _ _ _ true (by decide) (by decide) (HT.out.grown G1.out) (eqF_refl _)).mono ?_
      rintro e w2 ⟨rfl, hg2⟩
      have G2 := Lib.hid (gtrans G1.out hg2)
      clear hg2 G1
      go_wp2_with fail
      go_ret
      exact ⟨rfl, G2.out⟩
    | true =>
      go_wp2_with fail
      refine (ascii_is s _ true (by omega) has).mono ?_
      rintro e w' ⟨rfl, rfl⟩
      cases hat : asciiB t.data.toList with
      | false =>
        have hne : ((s ++ t).toList == ([] : List UInt8)) = false := app_ne s t (Or.inr (asciiB_ne hat))
        go_wp2_with fail
        refine (ascii_is t _ false (by omega) hat).mono ?_
        rintro e w' ⟨rfl, rfl⟩
        go_wp2_with fail
        refine (eq_call _ _ _ true (by decide) (by decide) (HT.out.grown G1.out) (eqF_refl _)).mono ?_
        rintro e w2 ⟨rfl, hg2⟩
        have G2 := Lib.hid (gtrans G1.out hg2)
        clear hg2 G1
        go_wp2_with fail
        go_ret
        exact ⟨rfl, G2.out⟩
      | true =>
        go_wp2_with fail
        refine (ascii_is t _ true (by omega) hat).mono ?_
        rintro e w' ⟨rfl, rfl⟩
        go_wp2_with fail
        refine (eq_call s t _ _ (by omega) (by omega) (HT.out.grown G1.out) rfl).mono ?_
        rintro e w2 ⟨rfl, hg2⟩
        have G2 := Lib.hid (gtrans G1.out hg2)
        clear hg2 G1
        go_wp2_with fail
        refine (lowerText_any s _ (by omega)).mono ?_
        rintro e w3 ⟨rfl, hg3⟩
        have G3 := Lib.hid (gtrans G2.out hg3)
        clear hg3 G2
        go_wp2_with fail
        refine (lowerText_any t _ (by omega)).mono ?_
        rintro e w4 ⟨rfl, hg4⟩
        have G4 := Lib.hid (gtrans G3.out hg4)
        clear hg4 G3
        have hcmp := eqF_ascii s.data.toList t.data.toList has hat
        go_wp2_with fail
        go_ret
        exact ⟨by show Ending.returned (.bool (decide (_ = _) == (_ == _))) = _; rw [dec_beq], G4.out⟩

set_option maxHeartbeats 2000000 in
theorem foldLonger_walk (w : World) (l : List UInt8) (bv : Value) (hb : BytesL w bv l) (hT : EqTabs w) :
    Calls Tryd.prog 6 #[bv] w (TruePost w) := by
  have hv := hb.code
  clear hb
  rcases hv.split with ⟨a, len, cap, rfl, hl, hl2⟩ | ⟨⟨a, len, cap, rfl, hl⟩, hC⟩
  · clear hv hT
    have hl' : (1048576 : Int) < (len : Int) := by omega
    go_enter Tryd.func6, Tryd.ntmps6
    go_wp2
    go_ret
    exact ⟨rfl, grefl w none⟩
  · have hl' : ¬ (1048576 : Int) < (len : Int) := by omega
    have HC := Lib.hid hC
    have HT := Lib.hid hT
    clear hv hC hT
    go_enter Tryd.func6, Tryd.ntmps6
    go_wp2_with fail
    refine (drawPair_any _ _ HC.out).mono ?_
    rintro e w1 ⟨s, t, hs, ht, rfl, hg1⟩
    have G1 := Lib.hid hg1
    clear hg1
    clear HC
    have hsum : s.size + t.size ≤ 9223372036854775807 := by omega
    cases hvs : Lib.validD s.data.toList with
    | false =>
      have hne : ((s ++ t).toList == ([] : List UInt8)) = false := app_ne s t (Or.inl (validD_ne hvs))
      go_wp2_with fail
      refine (valid_is s _ false (by omega) (HT.out.grown G1.out) hvs).mono ?_
      rintro e w2 ⟨rfl, hg2⟩
      have G2 := Lib.hid (gtrans G1.out hg2)
      clear hg2 G1
      go_wp2_with fail
      refine (eq_call _ _ _ true (by decide) (by decide) (HT.out.grown G2.out) (eqF_refl _)).mono ?_
      rintro e w3 ⟨rfl, hg3⟩
      have G3 := Lib.hid (gtrans G2.out hg3)
      clear hg3 G2
      go_wp2_with fail
      go_ret
      exact ⟨rfl, G3.out⟩
    | true =>
      go_wp2_with fail
      refine (valid_is s _ true (by omega) (HT.out.grown G1.out) hvs).mono ?_
      rintro e w2 ⟨rfl, hg2⟩
      have G2 := Lib.hid (gtrans G1.out hg2)
      clear hg2 G1
      cases hvt : Lib.validD t.data.toList with
      | false =>
        have hne : ((s ++ t).toList == ([] : List UInt8)) = false := app_ne s t (Or.inr (validD_ne hvt))
        go_wp2_with fail
        refine (valid_is t _ false (by omega) (HT.out.grown G2.out) hvt).mono ?_
        rintro e w3 ⟨rfl, hg3⟩
        have G3 := Lib.hid (gtrans G2.out hg3)
        clear hg3 G2
        go_wp2_with fail
        refine (eq_call _ _ _ true (by decide) (by decide) (HT.out.grown G3.out) (eqF_refl _)).mono ?_
        rintro e w4 ⟨rfl, hg4⟩
        have G4 := Lib.hid (gtrans G3.out hg4)
        clear hg4 G3
        go_wp2_with fail
        go_ret
        exact ⟨rfl, G4.out⟩
      | true =>
        go_wp2_with fail
        refine (valid_is t _ true (by omega) (HT.out.grown G2.out) hvt).mono ?_
        rintro e w3 ⟨rfl, hg3⟩
        have G3 := Lib.hid (gtrans G2.out hg3)
        clear hg3 G2
        have h1 : s.size + 1 ≤ 9223372036854775807 := by omega
        have h2 : 1 + t.size ≤ 9223372036854775807 := by omega
        go_wp2_with fail
        refine (eq_call s _ _ false (by omega) (size_more s _ hs rfl) (HT.out.grown G3.out) (eqF_more s _ hvs (by decide +kernel))).mono ?_
        rintro e w4 ⟨rfl, hg4⟩
        have G4 := Lib.hid (gtrans G3.out hg4)
        clear hg4 G3
        go_wp2_with fail
        refine (eq_call _ t _ false (size_ahead t _ ht rfl) (by omega) (HT.out.grown G4.out) (eqF_ahead t _ (by decide +kernel) (by decide +kernel))).mono ?_
        rintro e w5 ⟨rfl, hg5⟩
        have G5 := Lib.hid (gtrans G4.out hg5)
        clear hg5 G4
        cases hb : eqF s.data.toList t.data.toList with
        | false =>
          go_wp2_with fail
          refine (eq_call s t _ false (by omega) (by omega) (HT.out.grown G5.out) hb).mono ?_
          rintro e w6 ⟨rfl, hg6⟩
          have G6 := Lib.hid (gtrans G5.out hg6)
          clear hg6 G5
          go_wp2_with fail
          refine (eq_call s s _ true (by omega) (by omega) (HT.out.grown G6.out) (eqF_refl _)).mono ?_
          rintro e w7 ⟨rfl, hg7⟩
          have G7 := Lib.hid (gtrans G6.out hg7)
          clear hg7 G6
          go_wp2_with fail
          go_ret
          exact ⟨rfl, G7.out⟩
        | true =>
          have hlen : (chars s.data.toList).length = (chars t.data.toList).length := kinL_length _ _ hb
          go_wp2_with fail
          refine (eq_call s t _ true (by omega) (by omega) (HT.out.grown G5.out) hb).mono ?_
          rintro e w6 ⟨rfl, hg6⟩
          have G6 := Lib.hid (gtrans G5.out hg6)
          clear hg6 G5
          go_wp2_with fail
          refine (chars_any s _ (by omega)).mono ?_
          rintro e w7 ⟨_, _, rfl, -, hg7⟩
          have G7 := Lib.hid (gtrans G6.out hg7)
          clear hg7 G6
          have hlI : (((chars s.data.toList).length : Nat) : Int) = (((chars t.data.toList).length : Nat) : Int) := by omega
          go_wp2_with fail
          refine (chars_any t _ (by omega)).mono ?_
          rintro e w8 ⟨_, _, rfl, -, hg8⟩
          have G8 := Lib.hid (gtrans G7.out hg8)
          clear hg8 G7
          go_wp2_with fail
          refine (eq_call s s _ true (by omega) (by omega) (HT.out.grown G8.out) (eqF_refl _)).mono ?_
          rintro e w9 ⟨rfl, hg9⟩
          have G9 := Lib.hid (gtrans G8.out hg9)
          clear hg9 G8
          go_wp2_with fail
          go_ret
          exact ⟨rfl, G9.out⟩

set_option maxHeartbeats 2000000 in
theorem foldJoin_walk (w : World) (l : List UInt8) (bv : Value) (hb : BytesL w bv l) (m : List UInt8) (cv : Value) (hc : BytesL w cv m) (hT : EqTabs w) :
    Calls Tryd.prog 7 #[bv, cv] w (TruePost w) := by
  have hv := hb.code
  have hu := hc.code
  clear hb hc
  rcases hv.split with ⟨a, len, cap, rfl, hl, hl2⟩ | ⟨⟨a, len, cap, rfl, hl⟩, hC⟩
  · clear hv hT
    have hl' : (1048576 : Int) < (len : Int) := by omega
    go_enter Tryd.func7, Tryd.ntmps7
    go_wp2
    go_ret
    exact ⟨rfl, grefl w none⟩
  · have hl' : ¬ (1048576 : Int) < (len : Int) := by omega
    rcases hu.split with ⟨a2, len2, cap2, rfl, hm, hm2⟩ | ⟨⟨a2, len2, cap2, rfl, hm⟩, hD⟩
    · clear hv hu hT hC
      have hm' : (1048576 : Int) < (len2 : Int) := by omega
      go_enter Tryd.func7, Tryd.ntmps7
      go_wp2
      go_ret
      exact ⟨rfl, grefl w none⟩
    · have hm' : ¬ (1048576 : Int) < (len2 : Int) := by omega
      have HC := Lib.hid hC
      have HD := Lib.hid hD
      have HT := Lib.hid hT
      clear hv hu hC hD hT
      go_enter Tryd.func7, Tryd.ntmps7
      go_wp2_with fail
      refine (drawPair_any _ _ HC.out).mono ?_
      rintro e w1 ⟨s, t, hs, ht, rfl, hg1⟩
      have G1 := Lib.hid hg1
      clear hg1
      clear HC
      go_wp2_with fail
      refine (drawPair_any _ _ (CodeAt.kept HD.out G1.out)).mono ?_
      rintro e w2 ⟨u, v, hu, hv, rfl, hg2⟩
      have G2 := Lib.hid (gtrans G1.out hg2)
      clear hg2 G1
      clear HD
      have hzst : s.size + t.size ≤ 9223372036854775807 := by omega
      have hzuv : u.size + v.size ≤ 9223372036854775807 := by omega
      have hzsu : s.size + u.size ≤ 9223372036854775807 := by omega
      have hztu : t.size + u.size ≤ 9223372036854775807 := by omega
      have hztv : t.size + v.size ≤ 9223372036854775807 := by omega
      have hzus : u.size + s.size ≤ 9223372036854775807 := by omega
      have hzvt : v.size + t.size ≤ 9223372036854775807 := by omega
      cases vst : Lib.validD (s ++ t).data.toList with
      | false =>
        go_wp2_with fail
        refine (valid_is (s ++ t) _ false (size_two hs ht) (HT.out.grown G2.out) vst).mono ?_
        rintro e w3 ⟨rfl, hg3⟩
        have G3 := Lib.hid (gtrans G2.out hg3)
        clear hg3 G2
        go_wp2_with fail
        refine (eq_call _ _ _ true (by decide) (by decide) (HT.out.grown G3.out) (eqF_refl _)).mono ?_
        rintro e w4 ⟨rfl, hg4⟩
        have G4 := Lib.hid (gtrans G3.out hg4)
        clear hg4 G3
        go_wp2_with fail
        go_ret
        exact ⟨rfl, G4.out⟩
      | true =>
        go_wp2_with fail
        refine (valid_is (s ++ t) _ true (size_two hs ht) (HT.out.grown G2.out) vst).mono ?_
        rintro e w3 ⟨rfl, hg3⟩
        have G3 := Lib.hid (gtrans G2.out hg3)
        clear hg3 G2
        cases vuv : Lib.validD (u ++ v).data.toList with
        | false =>
          go_wp2_with fail
          refine (valid_is (u ++ v) _ false (size_two hu hv) (HT.out.grown G3.out) vuv).mono ?_
          rintro e w4 ⟨rfl, hg4⟩
          have G4 := Lib.hid (gtrans G3.out hg4)
          clear hg4 G3
          go_wp2_with fail
          refine (eq_call _ _ _ true (by decide) (by decide) (HT.out.grown G4.out) (eqF_refl _)).mono ?_
          rintro e w5 ⟨rfl, hg5⟩
          have G5 := Lib.hid (gtrans G4.out hg5)
          clear hg5 G4
          go_wp2_with fail
          go_ret
          exact ⟨rfl, G5.out⟩
        | true =>
          go_wp2_with fail
          refine (valid_is (u ++ v) _ true (size_two hu hv) (HT.out.grown G3.out) vuv).mono ?_
          rintro e w4 ⟨rfl, hg4⟩
          have G4 := Lib.hid (gtrans G3.out hg4)
          clear hg4 G3
          cases vs : Lib.validD (s).data.toList with
          | false =>
            go_wp2_with fail
            refine (valid_is (s) _ false (by omega) (HT.out.grown G4.out) vs).mono ?_
            rintro e w5 ⟨rfl, hg5⟩
            have G5 := Lib.hid (gtrans G4.out hg5)
            clear hg5 G4
            go_wp2_with fail
            refine (eq_call _ _ _ true (by decide) (by decide) (HT.out.grown G5.out) (eqF_refl _)).mono ?_
            rintro e w6 ⟨rfl, hg6⟩
            have G6 := Lib.hid (gtrans G5.out hg6)
            clear hg6 G5
            go_wp2_with fail
            go_ret
            exact ⟨rfl, G6.out⟩
          | true =>
            go_wp2_with fail
            refine (valid_is (s) _ true (by omega) (HT.out.grown G4.out) vs).mono ?_
            rintro e w5 ⟨rfl, hg5⟩
            have G5 := Lib.hid (gtrans G4.out hg5)
            clear hg5 G4
            cases vu : Lib.validD (u).data.toList with
            | false =>
              go_wp2_with fail
              refine (valid_is (u) _ false (by omega) (HT.out.grown G5.out) vu).mono ?_
              rintro e w6 ⟨rfl, hg6⟩
              have G6 := Lib.hid (gtrans G5.out hg6)
              clear hg6 G5
              go_wp2_with fail
              refine (eq_call _ _ _ true (by decide) (by decide) (HT.out.grown G6.out) (eqF_refl _)).mono ?_
              rintro e w7 ⟨rfl, hg7⟩
              have G7 := Lib.hid (gtrans G6.out hg7)
              clear hg7 G6
              go_wp2_with fail
              go_ret
              exact ⟨rfl, G7.out⟩
            | true =>
              go_wp2_with fail
              refine (valid_is (u) _ true (by omega) (HT.out.grown G5.out) vu).mono ?_
              rintro e w6 ⟨rfl, hg6⟩
              have G6 := Lib.hid (gtrans G5.out hg6)
              clear hg6 G5
              have hvt : Lib.validD t.data.toList = true := by rw [data_app] at vst; rw [← (chars_valid_append _ _ _ (Nat.le_refl _) vs).2]; exact vst
              have hvv : Lib.validD v.data.toList = true := by rw [data_app] at vuv; rw [← (chars_valid_append _ _ _ (Nat.le_refl _) vu).2]; exact vuv
              cases hb : eqF s.data.toList t.data.toList with
              | false =>
                have hj := eqF_join_no u vs hvt hb
                go_wp2_with fail
                refine (eq_call s t _ false (by omega) (by omega) (HT.out.grown G6.out) hb).mono ?_
                rintro e w7 ⟨rfl, hg7⟩
                have G7 := Lib.hid (gtrans G6.out hg7)
                clear hg7 G6
                go_wp2_with fail
                refine (eq_call (s ++ u) (t ++ u) _ false (size_two' hs hu) (size_two' ht hu) (HT.out.grown G7.out) hj).mono ?_
                rintro e w8 ⟨rfl, hg8⟩
                have G8 := Lib.hid (gtrans G7.out hg8)
                clear hg8 G7
                go_wp2_with fail
                refine (eq_call u u _ true (by omega) (by omega) (HT.out.grown G8.out) (eqF_refl _)).mono ?_
                rintro e w9 ⟨rfl, hg9⟩
                have G9 := Lib.hid (gtrans G8.out hg9)
                clear hg9 G8
                go_wp2_with fail
                go_ret
                exact ⟨rfl, G9.out⟩
              | true =>
                obtain ⟨b, hub⟩ : ∃ b, eqF u.data.toList v.data.toList = b := ⟨_, rfl⟩
                have hj1 := (eqF_join u v vs hvt hb).trans hub
                have hj2 := (eqF_join2 vu hvv hb).trans hub
                go_wp2_with fail
                refine (eq_call s t _ true (by omega) (by omega) (HT.out.grown G6.out) hb).mono ?_
                rintro e w7 ⟨rfl, hg7⟩
                have G7 := Lib.hid (gtrans G6.out hg7)
                clear hg7 G6
                go_wp2_with fail
                refine (eq_call (s ++ u) (t ++ v) _ b (size_two' hs hu) (size_two' ht hv) (HT.out.grown G7.out) hj1).mono ?_
                rintro e w8 ⟨rfl, hg8⟩
                have G8 := Lib.hid (gtrans G7.out hg8)
                clear hg8 G7
                go_wp2_with fail
                refine (eq_call u v _ b (by omega) (by omega) (HT.out.grown G8.out) hub).mono ?_
                rintro e w9 ⟨rfl, hg9⟩
                have G9 := Lib.hid (gtrans G8.out hg9)
                clear hg9 G8
                have hbb : (b == b) = true := by simp
                go_wp2_with fail
                refine (eq_call (u ++ s) (v ++ t) _ b (size_two' hu hs) (size_two' hv ht) (HT.out.grown G9.out) hj2).mono ?_
                rintro e w10 ⟨rfl, hg10⟩
                have G10 := Lib.hid (gtrans G9.out hg10)
                clear hg10 G9
                go_wp2_with fail
                refine (eq_call u v _ b (by omega) (by omega) (HT.out.grown G10.out) hub).mono ?_
                rintro e w11 ⟨rfl, hg11⟩
                have G11 := Lib.hid (gtrans G10.out hg11)
                clear hg11 G10
                go_wp2_with fail
                go_ret
                exact ⟨rfl, G11.out⟩

end Go.Proofs.YtgljpgnmlpglnaaDoor
