/- spec.DrawEqualFold returns two strings of at most 2^20 + 100 bytes, whatever the input is; nothing that was there changes. -/
import Derived.Test.YtgljpgnmlpglnaaDoorLetter
import Derived.Test.YtgljpgnmlpglnaaDoorRaw
import Derived.Deep.LoopGhost
namespace Go.Proofs.YtgljpgnmlpglnaaDoor
open Go.RowKit Go.Lib

def asciiL : List (List (List UInt8)) := [[[97], [65]], [[107], [75]], [[115], [83]], [[122], [90]], [[49]], [[91]], [[123]], [[64]], [[96]]]
def badL : List (List UInt8) := [[255], [195], [239, 191, 189]]
def badM : List (List UInt8) := [[255], [128], [239, 191, 189], []]
theorem badL_ok (W : World) (rb : Nat) (h : rb < W.heap.size) : StrsAt (W.alloc (strRow badL)) rb (.slice (some ⟨W.heap.size, 0, none⟩) 3 3) 0 4 :=
  strs_new W rb h badL 0 4 (by decide) (by decide) (by decide) W.heap.size (Nat.le_refl _) (heap_alloc_new W _)
theorem badM_ok (W : World) (rb : Nat) (h : rb < W.heap.size) : StrsAt (W.alloc (strRow badM)) rb (.slice (some ⟨W.heap.size, 0, none⟩) 4 4) 0 4 :=
  strs_new W rb h badM 0 4 (by decide) (by decide) (by decide) W.heap.size (Nat.le_refl _) (heap_alloc_new W _)

set_option maxHeartbeats 4000000 in
set_option maxRecDepth 100000 in
theorem drawPair_rest (w : World) (a : Option Addr) (len cap : Nat) (hC : CodeAt w (.slice a len cap)) :
    Calls Tryd.prog 14 #[.slice a len cap] w (PairPost w 1048676) := by
  obtain ⟨hR0, hB0⟩ := hC.reader
  have R0 := Lib.hid hR0
  have B0 := Lib.hid hB0
  have G0 := Lib.hid (World.grownBy_alloc w (.cells #[.slice a len cap, .int .i64 0] 35) none)
  have HRB := Lib.hid (Nat.le_refl w.heap.size)
  have HC := Lib.hid hC
  clear hR0 hB0 hC
  go_enter Tryd.func14, Tryd.ntmps14
  go_wp2_with fail
  refine (raw_any w a len cap HC.out).mono ?_
  rintro e w' ⟨bo, hbo, rfl, rfl⟩
  rcases (by cases bo; exact .inl rfl; exact .inr rfl : bo = false ∨ bo = true) with rfl | rfl
  rotate_left
  · have hl2 := hbo rfl
    rcases HC.out with ⟨a', cap', e⟩ | ⟨b, off, len', cap', e, q1, q2, q3, q4⟩
    · cases e
      omega
    · cases e
      have CH := Lib.hid (halves_any w b off len cap hl2 q2 q1 q3 q4)
      clear q4 hbo
      go_wp2_with fail
      refine CH.out.mono ?_
      rintro e w2 ⟨s, t, hs, ht, rfl, hg⟩
      have GH := Lib.hid hg
      clear hg
      go_wp2_with fail
      go_ret2
      exact ⟨s, t, by omega, by omega, rfl, GH.out⟩
  clear hbo HC
  go_wp2_with fail
  have hlt := R0.out.lt
  refine (families_at _ w.heap.size hlt).mono ?_
  rintro e w1 ⟨fb, rfl, hL, hg1⟩
  have R1 := Lib.hid (R0.out.kept hg1)
  have B1 := Lib.hid (B0.out.kept (gbut hg1 _))
  have G1 := Lib.hid (gbut (gtrans G0.out hg1) (some w.heap.size))
  have L1 := Lib.hid hL
  clear hg1 hL R0 B0 G0 hlt
  go_wp2_with fail
  refine (pick_any _ w.heap.size _ 0 2 R1.out B1.out (by omega) (by omega) (by omega)).mono ?_
  rintro e w2 ⟨asc, hasc, rfl, hR2, hg2⟩
  have R2 := Lib.hid hR2
  have B2 := Lib.hid (B1.out.kept hg2)
  have G2 := Lib.hid (gtrans G1.out hg2)
  have L2 := Lib.hid (L1.out.kept hg2)
  clear hR2 hg2 R1 B1 G1 L1
  go_wp2_with fail
  refine (pick_any _ w.heap.size _ 1 12 R2.out B2.out (by omega) (by omega) (by omega)).mono ?_
  rintro e w3 ⟨cnt, hcnt, rfl, hR3, hg3⟩
  have R3 := Lib.hid hR3
  have B3 := Lib.hid (B2.out.kept hg3)
  have G3 := Lib.hid (gtrans G2.out hg3)
  have L3 := Lib.hid (L2.out.kept hg3)
  clear hR3 hg3 R2 B2 G2 L2
  go_wp2_with fail
  go_loopg [6, 7, 9] 11 (fun g s6 s7 s9 wx => ∃ (sv tv : ByteArray) (n p : Nat), n ≤ g ∧ n ≤ 11 ∧ s6 = .string sv ∧ s7 = .string tv ∧ s9 = .int .i64 n ∧ sv.size + 4 * n ≤ 44 ∧ tv.size + 4 * n ≤ 44 ∧ p + 4 * n ≤ 46 ∧
    RdAt wx w.heap.size (.slice a len cap) p ∧ BytesAt wx w.heap.size (.slice a len cap) ∧ w.grownBy wx (some w.heap.size) ∧ ListsAt wx w.heap.size fb 23 1 4)
  case atStart => exact ⟨⟨#[]⟩, ⟨#[]⟩, cnt, 2, by omega, by omega, rfl, rfl, rfl, by simp [ByteArray.size]; omega, by simp [ByteArray.size]; omega, by omega, R3.out, B3.out, G3.out, L3.out⟩
  case round =>
    obtain ⟨sv, tv, n, p, hng, hn, rfl, rfl, rfl, hsv, htv, hp, hR, hB, hG, hL⟩ := hrel
    have R4 := Lib.hid hR
    have B4 := Lib.hid hB
    have G4 := Lib.hid hG
    have L4 := Lib.hid hL
    clear hR hB hG hL R3 B3 G3 L3
    by_cases hn0 : 0 < n
    · have hn0z : (0 : Int) < (n : Int) := by omega
      obtain ⟨g', rfl⟩ : ∃ g', gk = g' + 1 := ⟨gk - 1, by omega⟩
      go_wp2_with fail
      refine (pick_any _ w.heap.size _ p 23 R4.out B4.out (by omega) (by omega) (by omega)).mono ?_
      rintro e w5 ⟨k1, hk1, rfl, hR5, hg5⟩
      have R5 := Lib.hid hR5
      have B5 := Lib.hid (B4.out.kept hg5)
      have G5 := Lib.hid (gtrans G4.out hg5)
      obtain ⟨lv, hc, hS⟩ := (L4.out.kept hg5).2 k1 (by omega)
      have S5 := Lib.hid hS
      have L5 := Lib.hid (L4.out.kept hg5)
      clear hR5 hg5 R4 B4 G4 L4 hS
      have hlt5 := R5.out.lt
      by_cases ha : asc = 0
      · subst ha
        have R6 := Lib.hid (show RdAt ((listObjs asciiL w5.heap.size).foldl World.alloc w5) w.heap.size (.slice a len cap) (p + 1) from R5.out.kept (allocs_grown _ w5 none))
        have B6 := Lib.hid (B5.out.kept (allocs_grown (listObjs asciiL w5.heap.size) w5 (some w.heap.size)))
        have G6 := Lib.hid (gtrans G5.out (allocs_grown (listObjs asciiL w5.heap.size) w5 (some w.heap.size)))
        have L6 := Lib.hid (L5.out.kept (allocs_grown (listObjs asciiL w5.heap.size) w5 (some w.heap.size)))
        have A6 := Lib.hid (lists_new asciiL 1 4 (by decide +kernel) w5 w.heap.size hlt5)
        clear R5 B5 G5 L5 S5
        go_wp2_with fail
        refine (pick_any _ w.heap.size _ (p + 1) 9 R6.out B6.out (by omega) (by omega) (by omega)).mono ?_
        rintro e w7 ⟨k2, hk2, rfl, hR7, hg7⟩
        have R7 := Lib.hid hR7
        have B7 := Lib.hid (B6.out.kept hg7)
        have G7 := Lib.hid (gtrans G6.out hg7)
        have L7 := Lib.hid (L6.out.kept hg7)
        obtain ⟨lv2, hc2, hS2⟩ := (A6.out.kept hg7).2 k2 (by show k2 < 9; omega)
        have S7 := Lib.hid hS2
        have hc2' : w7.cell? ⟨w5.heap.size + 1 + 1 + 1 + 1 + 1 + 1 + 1 + 1 + 1, k2, none⟩ = some lv2 := hc2
        clear hR7 hg7 R6 B6 G6 L6 A6 hS2 hc2
        go_wp2_with fail
        refine (of_any _ w.heap.size _ lv2 (p + 2) 1 4 R7.out B7.out (by omega) S7.out).mono ?_
        rintro e w8 ⟨x1, x2, x3, rfl, hR8, hg8⟩
        have R8 := Lib.hid hR8
        have B8 := Lib.hid (B7.out.kept hg8)
        have G8 := Lib.hid (gtrans G7.out hg8)
        have L8 := Lib.hid (L7.out.kept hg8)
        have S8 := Lib.hid (S7.out.kept hg8)
        clear hR8 hg8 R7 B7 G7 L7 S7
        have hz1 : sv.size + x1.size ≤ 9223372036854775807 := by omega
        go_wp2_with fail
        refine (of_any _ w.heap.size _ lv2 (p + 2 + 1) 1 4 R8.out B8.out (by omega) S8.out).mono ?_
        rintro e w9 ⟨y1, y2, y3, rfl, hR9, hg9⟩
        have R9 := Lib.hid hR9
        have B9 := Lib.hid (B8.out.kept hg9)
        have G9 := Lib.hid (gtrans G8.out hg9)
        have L9 := Lib.hid (L8.out.kept hg9)
        clear hR9 hg9 R8 B8 G8 L8 S8
        have hz2 : tv.size + y1.size ≤ 9223372036854775807 := by omega
        go_wp2_with fail
        go_roundg g'
        case measure => omega
        case rel => exact ⟨sv ++ x1, tv ++ y1, n - 1, p + 2 + 2, by omega, by omega, rfl, rfl, by show Value.int _ _ = _; congr 1; omega, by rw [ByteArray.size_append]; omega, by rw [ByteArray.size_append]; omega, by omega, R9.out, B9.out, G9.out, L9.out⟩
      · have hab : ((asc : Int) == 0) = false := by rw [beq_eq_false_iff_ne]; omega
        go_wp2_with fail
        refine (of_any _ w.heap.size _ lv (p + 1) 1 4 R5.out B5.out (by omega) S5.out).mono ?_
        rintro e w8 ⟨x1, x2, x3, rfl, hR8, hg8⟩
        have R8 := Lib.hid hR8
        have B8 := Lib.hid (B5.out.kept hg8)
        have G8 := Lib.hid (gtrans G5.out hg8)
        have L8 := Lib.hid (L5.out.kept hg8)
        have S8 := Lib.hid (S5.out.kept hg8)
        clear hR8 hg8 R5 B5 G5 L5 S5
        have hz1 : sv.size + x1.size ≤ 9223372036854775807 := by omega
        go_wp2_with fail
        refine (of_any _ w.heap.size _ lv (p + 1 + 1) 1 4 R8.out B8.out (by omega) S8.out).mono ?_
        rintro e w9 ⟨y1, y2, y3, rfl, hR9, hg9⟩
        have R9 := Lib.hid hR9
        have B9 := Lib.hid (B8.out.kept hg9)
        have G9 := Lib.hid (gtrans G8.out hg9)
        have L9 := Lib.hid (L8.out.kept hg9)
        clear hR9 hg9 R8 B8 G8 L8 S8
        have hz2 : tv.size + y1.size ≤ 9223372036854775807 := by omega
        go_wp2_with fail
        go_roundg g'
        case measure => omega
        case rel => exact ⟨sv ++ x1, tv ++ y1, n - 1, p + 1 + 2, by omega, by omega, rfl, rfl, by show Value.int _ _ = _; congr 1; omega, by rw [ByteArray.size_append]; omega, by rw [ByteArray.size_append]; omega, by omega, R9.out, B9.out, G9.out, L9.out⟩
    · have hn0z : ¬ (0 : Int) < (n : Int) := by omega
      go_wp2_with fail
      refine (pick_any _ w.heap.size _ p 6 R4.out B4.out (by omega) (by omega) (by omega)).mono ?_
      rintro e w5 ⟨k1, hk1, rfl, hR5, hg5⟩
      have R5 := Lib.hid hR5
      have B5 := Lib.hid (B4.out.kept hg5)
      have G5 := Lib.hid (gtrans G4.out hg5)
      clear hR5 hg5 R4 B4 G4 L4
      have hlt5 := R5.out.lt
      rcases (by omega : k1 = 0 ∨ k1 = 1 ∨ k1 = 2 ∨ 3 ≤ k1) with rfl | rfl | rfl | hk3
      · go_wp2_with fail
        refine (letter_any _ w.heap.size _ (p + 1) R5.out B5.out (by omega)).mono ?_
        rintro e w6 ⟨x, xa, xb, rfl, hR6, hg6⟩
        have R6 := Lib.hid hR6
        have B6 := Lib.hid (B5.out.kept hg6)
        have G6 := Lib.hid (gtrans G5.out hg6)
        clear hR6 hg6 R5 B5 G5
        have hz6 : tv.size + x.size ≤ 9223372036854775807 := by omega
        go_wp2_with fail
        go_ret2
        exact ⟨_, _, by omega, by rw [ByteArray.size_append]; omega, rfl, gsome G6.out HRB.out⟩
      · go_wp2_with fail
        refine (letter_any _ w.heap.size _ (p + 1) R5.out B5.out (by omega)).mono ?_
        rintro e w6 ⟨x, xa, xb, rfl, hR6, hg6⟩
        have R6 := Lib.hid hR6
        have B6 := Lib.hid (B5.out.kept hg6)
        have G6 := Lib.hid (gtrans G5.out hg6)
        clear hR6 hg6 R5 B5 G5
        have hz6 : sv.size + x.size ≤ 9223372036854775807 := by omega
        go_wp2_with fail
        refine (letter_any _ w.heap.size _ (p + 4) R6.out B6.out (by omega)).mono ?_
        rintro e w7 ⟨y, ya, yb, rfl, hR7, hg7⟩
        have R7 := Lib.hid hR7
        have B7 := Lib.hid (B6.out.kept hg7)
        have G7 := Lib.hid (gtrans G6.out hg7)
        clear hR7 hg7 R6 B6 G6
        have hz7 : tv.size + y.size ≤ 9223372036854775807 := by omega
        go_wp2_with fail
        go_ret2
        exact ⟨_, _, by rw [ByteArray.size_append]; omega, by rw [ByteArray.size_append]; omega, rfl, gsome G7.out HRB.out⟩
      · have R6 := Lib.hid (R5.out.alloc (strRow badL))
        have B6 := Lib.hid (B5.out.kept (World.grownBy_alloc w5 (strRow badL) _))
        have G6 := Lib.hid (galloc G5.out (strRow badL))
        have S6 := Lib.hid (badL_ok w5 w.heap.size hlt5)
        clear R5 B5 G5
        go_wp2_with fail
        refine (of_any _ w.heap.size _ _ (p + 1) 0 4 R6.out B6.out (by omega) S6.out).mono ?_
        rintro e w7 ⟨x, xa, xb, rfl, hR7, hg7⟩
        have R8 := Lib.hid (hR7.alloc (strRow badM))
        have B8 := Lib.hid ((B6.out.kept hg7).kept (World.grownBy_alloc w7 (strRow badM) _))
        have G8 := Lib.hid (galloc (gtrans G6.out hg7) (strRow badM))
        have S8 := Lib.hid (badM_ok w7 w.heap.size hR7.lt)
        have hz1 : sv.size + x.size ≤ 9223372036854775807 := by omega
        clear hR7 hg7 R6 B6 G6 S6
        go_wp2_with fail
        refine (of_any _ w.heap.size _ _ (p + 2) 0 4 R8.out B8.out (by omega) S8.out).mono ?_
        rintro e w9 ⟨y, ya, yb, rfl, hR9, hg9⟩
        have G9 := Lib.hid (gtrans G8.out hg9)
        have hz2 : tv.size + y.size ≤ 9223372036854775807 := by omega
        clear hR9 hg9 R8 B8 G8 S8
        go_wp2_with fail
        go_ret2
        exact ⟨_, _, by rw [ByteArray.size_append]; omega, by rw [ByteArray.size_append]; omega, rfl, gsome G9.out HRB.out⟩
      · have b0 : ((k1 : Int) == 0) = false := by rw [beq_eq_false_iff_ne]; omega
        have b1 : ((k1 : Int) == 1) = false := by rw [beq_eq_false_iff_ne]; omega
        have b2 : ((k1 : Int) == 2) = false := by rw [beq_eq_false_iff_ne]; omega
        go_wp2_with fail
        go_ret2
        exact ⟨_, _, by omega, by omega, rfl, gsome G5.out HRB.out⟩

set_option maxHeartbeats 1000000 in
theorem drawPair_any (w : World) (bv : Value) (hC : CodeAt w bv) : Calls Tryd.prog 14 #[bv] w (PairPost w 1048676) := by
  have hC' := hC
  obtain ⟨a, len, cap, rfl⟩ : ∃ a len cap, bv = .slice a len cap := by
    rcases hC with ⟨a, cap, rfl⟩ | ⟨b, off, len, cap, rfl, _⟩
    · exact ⟨_, _, _, rfl⟩
    · exact ⟨_, _, _, rfl⟩
  exact drawPair_rest w a len cap hC'
end Go.Proofs.YtgljpgnmlpglnaaDoor
