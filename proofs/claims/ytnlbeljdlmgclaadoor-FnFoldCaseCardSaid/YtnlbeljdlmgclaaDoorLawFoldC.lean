/- The law FnFoldCase: a string of characters of one byte is equal to its cases. Written by gen_lawcase3.py. -/
import Derived.Test.YtnlbeljdlmgclaaDoorLawCase
import Derived.Test.YtnlbeljdlmgclaaDoorEqC
namespace Go.Ftx
open Go.Lib
theorem low_upp (b : UInt8) : lowB (uppB b) = lowB b ∧ lowB (lowB b) = lowB b := by
  have h : ∀ i : Fin 256, lowB (uppB (UInt8.ofNat i.val)) = lowB (UInt8.ofNat i.val) ∧ lowB (lowB (UInt8.ofNat i.val)) = lowB (UInt8.ofNat i.val) := by decide +kernel
  have := h ⟨b.toNat, UInt8.toNat_lt b⟩
  simpa using this
theorem upp_small (b : UInt8) : b.toNat < 128 → (uppB b).toNat < 128 ∧ (lowB b).toNat < 128 := by
  have h : ∀ i : Fin 256, i.val < 128 → (uppB (UInt8.ofNat i.val)).toNat < 128 ∧ (lowB (UInt8.ofNat i.val)).toNat < 128 := by decide +kernel
  have := h ⟨b.toNat, UInt8.toNat_lt b⟩
  simpa using this
theorem ascii_map (l : List UInt8) (h : asciiB l = true) : asciiB (l.map uppB) = true ∧ asciiB (l.map lowB) = true := by
  have hl := ascii_lt h
  constructor
  · refine List.all_eq_true.2 fun x hx => ?_
    obtain ⟨b, hb, rfl⟩ := List.mem_map.1 hx
    exact decide_eq_true (upp_small b (hl b hb)).1
  · refine List.all_eq_true.2 fun x hx => ?_
    obtain ⟨b, hb, rfl⟩ := List.mem_map.1 hx
    exact decide_eq_true (upp_small b (hl b hb)).2
theorem low_map (l : List UInt8) : (l.map uppB).map lowB = l.map lowB ∧ (l.map lowB).map lowB = l.map lowB := by
  constructor
  · rw [List.map_map]; exact List.map_congr_left fun b _ => (low_upp b).1
  · rw [List.map_map]; exact List.map_congr_left fun b _ => (low_upp b).2
theorem eq_cases (l : List UInt8) (h : asciiB l = true) : eqF l (l.map uppB) = true ∧ eqF (l.map lowB) l = true ∧ eqF (l.map lowB) (l.map uppB) = true := by
  have ha := ascii_map l h
  have hm := low_map l
  refine ⟨?_, ?_, ?_⟩
  · rw [eqF_ascii _ _ h ha.1, hm.1, decide_eq_true rfl]
  · rw [eqF_ascii _ _ ha.2 h, hm.2, decide_eq_true rfl]
  · rw [eqF_ascii _ _ ha.2 ha.1, hm.1, hm.2, decide_eq_true rfl]
end Go.Ftx
namespace Go.Proofs.YtnlbeljdlmgclaaDoor
open Go.RowKit Go.Lib Go.Ftx
theorem EqTabs.c {w : World} (h : EqTabs w) : CTabs w := ⟨h.1.2.2, h.2⟩

set_option maxHeartbeats 2000000 in
theorem foldCase_walk (w : World) (l : List UInt8) (bv : Value) (hb : BytesL w bv l) (hT : EqTabs w) :
    Calls Tryd.prog 3 #[bv] w (TruePost w) := by
  have hv := hb.code
  clear hb
  rcases hv.split with ⟨a, len, cap, rfl, hl, hl2⟩ | ⟨⟨a, len, cap, rfl, hl⟩, hC⟩
  · clear hv hT
    have hl' : (1048576 : Int) < (len : Int) := by omega
    go_enter Tryd.func3, Tryd.ntmps3
    go_wp2
    go_ret
    exact ⟨rfl, grefl w none⟩
  · have hl' : ¬ (1048576 : Int) < (len : Int) := by omega
    have HC := Lib.hid hC
    have HT := Lib.hid hT
    clear hv hC hT
    go_enter Tryd.func3, Tryd.ntmps3
    go_wp2_with fail
    refine (drawUpper_any _ _ HC.out).mono ?_
    rintro e w1 ⟨s, hs, rfl, hg1⟩
    have G1 := Lib.hid hg1
    clear hg1
    clear HC
    cases has : asciiB s.data.toList with
    | false =>
      have hne : (s.toList == ([] : List UInt8)) = false := str_not (asciiB_not has)
      go_wp2_with fail
      refine (ascii_isC s _ false (by omega) has).mono ?_
      rintro e w' ⟨rfl, rfl⟩
      go_wp2_with fail
      refine (eq_call _ _ _ true (by decide) (by decide) (HT.out.grown G1.out) (eqF_refl _)).mono ?_
      rintro e w2 ⟨rfl, hg2⟩
      have G2 := Lib.hid (gtrans G1.out hg2)
      clear hg2 G1
      go_wp2_with fail
      go_ret
      exact ⟨rfl, G2.out⟩
    | true =>
      go_wp2_with fail
      refine (ascii_isC s _ true (by omega) has).mono ?_
      rintro e w' ⟨rfl, rfl⟩
      obtain ⟨o, ho⟩ := ex_out (mapD toUpperU s.data.toList)
      have zo := out_size toUpperU ho
      obtain ⟨u, hu⟩ := ex_out (mapD toLowerU s.data.toList)
      have zu := out_size toLowerU hu
      have hc := eq_cases s.data.toList has
      have ho2 : s.data.toList.map uppB = o.data.toList := by rw [← ho]; exact (upper_ascii _ has).symm
      have hu2 : s.data.toList.map lowB = u.data.toList := by rw [← hu]; exact (lower_ascii _ has).symm
      rw [ho2, hu2] at hc
      obtain ⟨hc1, hc2, hc3⟩ := hc
      go_wp2_with fail
      refine (implUpper_is s _ o (by omega) (HT.out.grown G1.out).c ho).mono ?_
      rintro e w2 ⟨rfl, hg2⟩
      have G2 := Lib.hid (gtrans G1.out hg2)
      clear hg2 G1
      go_wp2_with fail
      refine (eq_call s o _ true (by omega) (by omega) (HT.out.grown G2.out) hc1).mono ?_
      rintro e w3 ⟨rfl, hg3⟩
      have G3 := Lib.hid (gtrans G2.out hg3)
      clear hg3 G2
      go_wp2_with fail
      refine (implLower_is s _ u (by omega) (HT.out.grown G3.out).c hu).mono ?_
      rintro e w4 ⟨rfl, hg4⟩
      have G4 := Lib.hid (gtrans G3.out hg4)
      clear hg4 G3
      go_wp2_with fail
      refine (eq_call u s _ true (by omega) (by omega) (HT.out.grown G4.out) hc2).mono ?_
      rintro e w5 ⟨rfl, hg5⟩
      have G5 := Lib.hid (gtrans G4.out hg5)
      clear hg5 G4
      go_wp2_with fail
      refine (implLower_is s _ u (by omega) (HT.out.grown G5.out).c hu).mono ?_
      rintro e w6 ⟨rfl, hg6⟩
      have G6 := Lib.hid (gtrans G5.out hg6)
      clear hg6 G5
      go_wp2_with fail
      refine (implUpper_is s _ o (by omega) (HT.out.grown G6.out).c ho).mono ?_
      rintro e w7 ⟨rfl, hg7⟩
      have G7 := Lib.hid (gtrans G6.out hg7)
      clear hg7 G6
      go_wp2_with fail
      refine (eq_call u o _ true (by omega) (by omega) (HT.out.grown G7.out) hc3).mono ?_
      rintro e w8 ⟨rfl, hg8⟩
      have G8 := Lib.hid (gtrans G7.out hg8)
      clear hg8 G7
      go_wp2_with fail
      go_ret
      exact ⟨rfl, G8.out⟩

end Go.Proofs.YtnlbeljdlmgclaaDoor
