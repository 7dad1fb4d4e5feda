/- The drawing of texts: spec.text returns a string of at most four times as many bytes as it may draw characters; spec.DrawToUpper one of at most 2^20 bytes. Written by gen_drawtext.py. -/
import Derived.Test.YtjcbhnnlakfmaaaDoorLetter
import Derived.Test.YtjcbhnnlakfmaaaDoorRaw
import Derived.Deep.LoopGhost
namespace Go.Proofs.YtjcbhnnlakfmaaaDoor
open Go.RowKit Go.Lib

def fewL : List (List UInt8) := [[97], [98], [97, 98]]
def noneL : List (List UInt8) := [[255], [195], [226, 130], [128], [237, 160, 128]]
theorem fewL_ok (W : World) (rb : Nat) (h : rb < W.heap.size) : StrsAt (W.alloc (strRow fewL)) rb (.slice (some ⟨W.heap.size, 0, none⟩) 3 3) 0 4 :=
  strs_new W rb h fewL 0 4 (by decide) (by decide) (by decide) W.heap.size (Nat.le_refl _) (heap_alloc_new W _)
theorem noneL_ok (W : World) (rb : Nat) (h : rb < W.heap.size) : StrsAt (W.alloc (strRow noneL)) rb (.slice (some ⟨W.heap.size, 0, none⟩) 5 5) 0 4 :=
  strs_new W rb h noneL 0 4 (by decide) (by decide) (by decide) W.heap.size (Nat.le_refl _) (heap_alloc_new W _)
def TextPost (w : World) (rb : Nat) (bv : Value) (m : Nat) (e : Ending) (w' : World) : Prop := ∃ (s : ByteArray) (p : Nat), s.size ≤ 4 * m ∧ e = .returned (.string s) ∧ RdAt w' rb bv p ∧ w.grownBy w' (some rb)
def DrawnPost (w : World) (e : Ending) (w' : World) : Prop := ∃ s : ByteArray, s.size ≤ 1048676 ∧ e = .returned (.string s) ∧ w.grownBy w' none

set_option maxHeartbeats 4000000 in
theorem text_any (w : World) (rb : Nat) (bv : Value) (p most : Nat) (h : RdAt w rb bv p) (hB : BytesAt w rb bv) (hp : p ≤ 900000) (hm : most ≤ 100) :
    Calls Tryd.prog 43 #[.pointer (some ⟨rb, 0, none⟩), .int .i64 most] w (TextPost w rb bv most) := by
  have R0 := Lib.hid h
  have B0 := Lib.hid hB
  clear h hB
  go_enter Tryd.func43, Tryd.ntmps43
  go_wp2_with fail
  refine (pick_any _ rb _ p 4 R0.out B0.out (by omega) (by omega) (by omega)).mono ?_
  rintro e w1 ⟨mode, hmode, rfl, hR1, hg1⟩
  have R1 := Lib.hid hR1
  have B1 := Lib.hid (B0.out.kept hg1)
  have G1 := Lib.hid hg1
  clear hR1 hg1 R0 B0
  go_wp2_with fail
  refine (pick_any _ rb _ (p + 1) ((most : Int) + 1) R1.out B1.out (by omega) (by omega) (by omega)).mono ?_
  rintro e w2 ⟨cnt, hcnt, rfl, hR2, hg2⟩
  have R2 := Lib.hid hR2
  have B2 := Lib.hid (B1.out.kept hg2)
  have G2 := Lib.hid (gtrans G1.out hg2)
  clear hR2 hg2 R1 B1 G1
  go_wp2_with fail
  go_loopg [5, 7] most (fun g s5 s7 wx => ∃ (ov : ByteArray) (n q : Nat), n ≤ g ∧ n ≤ most ∧ s5 = .string ov ∧ s7 = .int .i64 n ∧ ov.size + 4 * n ≤ 4 * most ∧ q + 4 * n ≤ p + 2 + 4 * most ∧ Hid (RdAt wx rb bv q) ∧ Hid (BytesAt wx rb bv) ∧ Hid (w.grownBy wx (some rb)))
  case atStart => exact ⟨⟨#[]⟩, cnt, p + 2, by omega, by omega, rfl, rfl, by simp [ByteArray.size]; omega, by omega, R2.out, B2.out, G2.out⟩
  case round =>
    obtain ⟨ov, n, q, hng, hn, rfl, rfl, hov, hq, R3, B3, G3⟩ := hrel
    clear R2 B2 G2
    by_cases hn0 : 0 < n
    · have hn0z : (0 : Int) < (n : Int) := by omega
      obtain ⟨g', rfl⟩ : ∃ g', gk = g' + 1 := ⟨gk - 1, by omega⟩
      have hlt := R3.out.lt
      rcases (by omega : mode = 0 ∨ mode = 1 ∨ 2 ≤ mode) with rfl | rfl | hm2
      · have R4 := Lib.hid (R3.out.alloc (strRow fewL))
        have B4 := Lib.hid (B3.out.kept (World.grownBy_alloc wr (strRow fewL) _))
        have G4 := Lib.hid (galloc G3.out (strRow fewL))
        have S4 := Lib.hid (fewL_ok wr rb hlt)
        clear R3 B3 G3
        go_wp2_with fail
        refine (of_any _ rb _ _ q 0 4 R4.out B4.out (by omega) S4.out).mono ?_
        rintro e w5 ⟨y, ya, yb, rfl, hR5, hg5⟩
        have R5 := Lib.hid hR5
        have B5 := Lib.hid (B4.out.kept hg5)
        have G5 := Lib.hid (gtrans G4.out hg5)
        clear hR5 hg5 R4 B4 G4 S4
        have hz : ov.size + y.size ≤ 9223372036854775807 := by omega
        go_wp2_with fail
        go_roundg g'
        case measure => omega
        case rel => exact ⟨ov ++ y, n - 1, q + 1, by omega, by omega, rfl, by show Value.int _ _ = _; congr 1; omega, by rw [ByteArray.size_append]; omega, by omega, R5.out, B5.out, G5.out⟩
      · go_wp2_with fail
        refine (pick_any _ rb _ q 8 R3.out B3.out (by omega) (by omega) (by omega)).mono ?_
        rintro e w4 ⟨k, hk, rfl, hR4, hg4⟩
        have hlt4 := hR4.lt
        by_cases hk0 : k = 0
        · subst hk0
          have R5 := Lib.hid (hR4.alloc (strRow noneL))
          have B5 := Lib.hid ((B3.out.kept hg4).kept (World.grownBy_alloc w4 (strRow noneL) _))
          have G5 := Lib.hid (galloc (gtrans G3.out hg4) (strRow noneL))
          have S5 := Lib.hid (noneL_ok w4 rb hlt4)
          clear hR4 hg4 R3 B3 G3
          go_wp2_with fail
          refine (of_any _ rb _ _ (q + 1) 0 4 R5.out B5.out (by omega) S5.out).mono ?_
          rintro e w6 ⟨y, ya, yb, rfl, hR6, hg6⟩
          have R6 := Lib.hid hR6
          have B6 := Lib.hid (B5.out.kept hg6)
          have G6 := Lib.hid (gtrans G5.out hg6)
          clear hR6 hg6 R5 B5 G5 S5
          have hz : ov.size + y.size ≤ 9223372036854775807 := by omega
          go_wp2_with fail
          go_roundg g'
          case measure => omega
          case rel => exact ⟨ov ++ y, n - 1, q + 1 + 1, by omega, by omega, rfl, by show Value.int _ _ = _; congr 1; omega, by rw [ByteArray.size_append]; omega, by omega, R6.out, B6.out, G6.out⟩
        · have hk0b : ((k : Int) == 0) = false := by rw [beq_eq_false_iff_ne]; omega
          have R5 := Lib.hid hR4
          have B5 := Lib.hid (B3.out.kept hg4)
          have G5 := Lib.hid (gtrans G3.out hg4)
          clear hR4 hg4 R3 B3 G3
          go_wp2_with fail
          refine (letter_any _ rb _ (q + 1) R5.out B5.out (by omega)).mono ?_
          rintro e w6 ⟨y, ya, yb, rfl, hR6, hg6⟩
          have R6 := Lib.hid hR6
          have B6 := Lib.hid (B5.out.kept hg6)
          have G6 := Lib.hid (gtrans G5.out hg6)
          clear hR6 hg6 R5 B5 G5
          have hz : ov.size + y.size ≤ 9223372036854775807 := by omega
          go_wp2_with fail
          go_roundg g'
          case measure => omega
          case rel => exact ⟨ov ++ y, n - 1, q + 4, by omega, by omega, rfl, by show Value.int _ _ = _; congr 1; omega, by rw [ByteArray.size_append]; omega, by omega, R6.out, B6.out, G6.out⟩
      · have hm0 : ((mode : Int) == 0) = false := by rw [beq_eq_false_iff_ne]; omega
        have hm1 : ((mode : Int) == 1) = false := by rw [beq_eq_false_iff_ne]; omega
        go_wp2_with fail
        refine (letter_any _ rb _ q R3.out B3.out (by omega)).mono ?_
        rintro e w6 ⟨y, ya, yb, rfl, hR6, hg6⟩
        have R6 := Lib.hid hR6
        have B6 := Lib.hid (B3.out.kept hg6)
        have G6 := Lib.hid (gtrans G3.out hg6)
        clear hR6 hg6 R3 B3 G3
        have hz : ov.size + y.size ≤ 9223372036854775807 := by omega
        go_wp2_with fail
        go_roundg g'
        case measure => omega
        case rel => exact ⟨ov ++ y, n - 1, q + 3, by omega, by omega, rfl, by show Value.int _ _ = _; congr 1; omega, by rw [ByteArray.size_append]; omega, by omega, R6.out, B6.out, G6.out⟩
    · have hn0z : ¬ (0 : Int) < (n : Int) := by omega
      go_wp2_with fail
      go_ret
      exact ⟨ov, q, by omega, rfl, R3.out, G3.out⟩

set_option maxHeartbeats 4000000 in
theorem drawUpper_any (w : World) (bv : Value) (hC : CodeAt w bv) : Calls Tryd.prog 62 #[bv] w (DrawnPost w) := by
  obtain ⟨a, len, cap, rfl⟩ : ∃ a len cap, bv = .slice a len cap := by
    rcases hC with ⟨a, cap, rfl⟩ | ⟨b, off, len, cap, rfl, _⟩
    · exact ⟨_, _, _, rfl⟩
    · exact ⟨_, _, _, rfl⟩
  obtain ⟨hR0, hB0⟩ := hC.reader
  have R0 := Lib.hid hR0
  have B0 := Lib.hid hB0
  have G0 := Lib.hid (World.grownBy_alloc w (.cells #[.slice a len cap, .int .i64 0] 49) none)
  have HC := Lib.hid hC
  clear hR0 hB0 hC
  go_enter Tryd.func62, Tryd.ntmps62
  go_wp2_with fail
  refine (raw_any w a len cap HC.out).mono ?_
  rintro e w' ⟨bo, hbo, rfl, rfl⟩
  rcases (by cases bo; exact .inl rfl; exact .inr rfl : bo = false ∨ bo = true) with rfl | rfl
  · clear hbo HC
    go_wp2_with fail
    refine (text_any _ w.heap.size _ 0 16 R0.out B0.out (by omega) (by omega)).mono ?_
    rintro e w2 ⟨s, p, hs, rfl, -, hg⟩
    have GH := Lib.hid (gjoin G0.out hg (Nat.le_refl _))
    clear hg R0 B0 G0
    go_wp2_with fail
    go_ret
    exact ⟨s, by omega, rfl, GH.out⟩
  · have hl2 := hbo rfl
    rcases HC.out with ⟨a', cap', e⟩ | ⟨b, off, len', cap', e, q1, q2, q3, q4⟩
    · cases e
      omega
    · cases e
      obtain ⟨l, hll, hlc2⟩ := code_list q4
      have P1 := part_string (w := w) l hll hlc2 1 (len - 1) (cap - 1) (by omega)
      have hne : cap ≠ 1 := by omega
      have z1 : (1 : Int) ≤ (len : Int) := by omega
      have z2 : (len : Int) ≤ (cap : Int) := by omega
      have s1 : ((l.drop 1).take (len - 1)).length ≤ len := by rw [List.length_take, List.length_drop]; omega
      generalize (l.drop 1).take (len - 1) = l1 at *
      clear q4 hbo hlc2 hll R0 B0 G0 HC
      go_wp2
      go_ret
      exact ⟨_, by simp [ByteArray.size]; omega, rfl, grefl w none⟩




theorem drawToTitle_any (w : World) (bv : Value) (hC : CodeAt w bv) : Calls Tryd.prog 32 #[bv] w (DrawnPost w) := by
  obtain ⟨a, len, cap, rfl⟩ : ∃ a len cap, bv = .slice a len cap := by
    rcases hC with ⟨a, cap, rfl⟩ | ⟨b, off, len, cap, rfl, _⟩
    · exact ⟨_, _, _, rfl⟩
    · exact ⟨_, _, _, rfl⟩
  have cD := Lib.hid (drawUpper_any w _ hC)
  clear hC
  go_enter Tryd.func32, Tryd.ntmps32
  go_wp2_with fail
  refine cD.out.mono ?_
  rintro e w' ⟨s, hs, rfl, hg⟩
  have HG := Lib.hid hg
  clear hg
  go_wp2_with fail
  go_ret
  exact ⟨s, hs, rfl, HG.out⟩


end Go.Proofs.YtjcbhnnlakfmaaaDoor
