/- spec.DrawSimpleFold returns some int32, whatever the input is; nothing that was there changes. -/
import Derived.Test.YtnlbeljdlmgclaaDoorLetter
import Derived.Test.YtnlbeljdlmgclaaDoorCharsW
namespace Go.Proofs.YtnlbeljdlmgclaaDoor
open Go.RowKit Go.Lib Go.Ftx

def RunePost (w : World) (e : Ending) (w' : World) : Prop :=
  ∃ r : Int, -2147483648 ≤ r ∧ r ≤ 2147483647 ∧ e = .returned (.int .i32 r) ∧ w.grownBy w' none
theorem wrap32_bd (z : Int) : -2147483648 ≤ wrap32 z ∧ wrap32 z ≤ 2147483647 := by unfold wrap32; omega

set_option maxHeartbeats 4000000 in
theorem drawRune_four (w : World) (b off cap c0 c1 c2 c3 : Nat) (b0 : c0 < 256) (b1 : c1 < 256) (b2 : c2 < 256) (b3 : c3 < 256)
    (h0 : w.cell? ⟨b, off, none⟩ = some (.int .u8 c0)) (h1 : w.cell? ⟨b, off + 1, none⟩ = some (.int .u8 c1)) (h2 : w.cell? ⟨b, off + 2, none⟩ = some (.int .u8 c2)) (h3 : w.cell? ⟨b, off + 3, none⟩ = some (.int .u8 c3)) :
    Calls Tryd.prog 43 #[.slice (some ⟨b, off, none⟩) 4 cap] w (RunePost w) := by
  go_enter Tryd.func43, Tryd.ntmps43
  go_wp2
  go_quiet (fail)
  go_wp2
  go_ret
  exact ⟨_, (wrap32_bd _).1, (wrap32_bd _).2, rfl, gdrewN (grefl w none) _⟩

theorem list14 (w : World) : ∀ i, i < 14 → ∃ z : Int, -2147483648 ≤ z ∧ z ≤ 2147483647 ∧ (w.alloc (.cells #[.int .i32 (-1), .int .i32 (-2), .int .i32 1114111, .int .i32 1114112, .int .i32 55296, .int .i32 57343, .int .i32 65533, .int .i32 (-2147483648), .int .i32 2147483647, .int .i32 8490, .int .i32 383, .int .i32 305, .int .i32 304, .int .i32 7838] 21)).cell? ⟨w.heap.size, i, none⟩ = some (.int .i32 z) := by
  intro i hi
  rw [cell_of_heap (heap_alloc_new w _) i]
  have : ∀ i, i < 14 → ∃ z : Int, -2147483648 ≤ z ∧ z ≤ 2147483647 ∧ (#[.int .i32 (-1), .int .i32 (-2), .int .i32 1114111, .int .i32 1114112, .int .i32 55296, .int .i32 57343, .int .i32 65533, .int .i32 (-2147483648), .int .i32 2147483647, .int .i32 8490, .int .i32 383, .int .i32 305, .int .i32 304, .int .i32 7838] : Array Value)[i]? = some (.int .i32 z)
    | 0, _ => ⟨-1, by omega, by omega, rfl⟩
    | 1, _ => ⟨-2, by omega, by omega, rfl⟩
    | 2, _ => ⟨1114111, by omega, by omega, rfl⟩
    | 3, _ => ⟨1114112, by omega, by omega, rfl⟩
    | 4, _ => ⟨55296, by omega, by omega, rfl⟩
    | 5, _ => ⟨57343, by omega, by omega, rfl⟩
    | 6, _ => ⟨65533, by omega, by omega, rfl⟩
    | 7, _ => ⟨-2147483648, by omega, by omega, rfl⟩
    | 8, _ => ⟨2147483647, by omega, by omega, rfl⟩
    | 9, _ => ⟨8490, by omega, by omega, rfl⟩
    | 10, _ => ⟨383, by omega, by omega, rfl⟩
    | 11, _ => ⟨305, by omega, by omega, rfl⟩
    | 12, _ => ⟨304, by omega, by omega, rfl⟩
    | 13, _ => ⟨7838, by omega, by omega, rfl⟩
    | n + 14, h => by omega
  exact this i hi

theorem decodeL_le_rune (l : List UInt8) : (decodeL l).1 ≤ 1114111 := Lib.rune_le ⟨l.toArray⟩ 0

set_option maxHeartbeats 4000000 in
theorem drawRune_rest (w : World) (bv : Value) (len cap : Nat) (a : Option Addr) (hv : bv = .slice a len cap) (h4 : ((len : Int) == 4) = false) (hC : CodeAt w bv) :
    Calls Tryd.prog 43 #[bv] w (RunePost w) := by
  obtain ⟨hR0, hB0⟩ := hC.reader
  have R0 := Lib.hid hR0
  have B0 := Lib.hid hB0
  have G0 := Lib.hid (World.grownBy_alloc w (.cells #[bv, .int .i64 0] 37) none)
  clear hR0 hB0 hC
  subst hv
  go_enter Tryd.func43, Tryd.ntmps43
  go_wp2_with fail
  refine (pick_any _ w.heap.size _ _ 6 R0.out B0.out (by omega) (by omega) (by omega)).mono ?_
  rintro e w1 ⟨k, hk, rfl, hR1, hg1⟩
  have R1 := Lib.hid hR1
  have B1 := Lib.hid (B0.out.kept hg1)
  have G1 := Lib.hid (gjoin G0.out hg1 (Nat.le_refl _))
  clear hR1 hg1 R0 B0 G0
  rcases (by omega : k = 0 ∨ k = 1 ∨ k = 2 ∨ k = 3 ∨ k = 4 ∨ k = 5) with rfl | rfl | rfl | rfl | hk'
  · go_wp2_with fail
    refine (pick_any _ w.heap.size _ _ 128 R1.out B1.out (by omega) (by omega) (by omega)).mono ?_
    rintro e w2 ⟨a1, ha1, rfl, hR2, hg2⟩
    have R2 := Lib.hid hR2
    have B2 := Lib.hid (B1.out.kept hg2)
    have G2 := Lib.hid (gjoin G1.out hg2 (Nat.le_refl _))
    clear hR2 hg2 R1 B1 G1
    go_wp2_with fail
    go_ret
    exact ⟨_, by omega, by omega, rfl, G2.out⟩
  · go_wp2_with fail
    refine (pick_any _ w.heap.size _ _ 256 R1.out B1.out (by omega) (by omega) (by omega)).mono ?_
    rintro e w2 ⟨a1, ha1, rfl, hR2, hg2⟩
    have R2 := Lib.hid hR2
    have B2 := Lib.hid (B1.out.kept hg2)
    have G2 := Lib.hid (gjoin G1.out hg2 (Nat.le_refl _))
    clear hR2 hg2 R1 B1 G1
    go_wp2_with fail
    refine (pick_any _ w.heap.size _ _ 256 R2.out B2.out (by omega) (by omega) (by omega)).mono ?_
    rintro e w3 ⟨a2, ha2, rfl, hR3, hg3⟩
    have R3 := Lib.hid hR3
    have B3 := Lib.hid (B2.out.kept hg3)
    have G3 := Lib.hid (gjoin G2.out hg3 (Nat.le_refl _))
    clear hR3 hg3 R2 B2 G2
    go_wp2_with fail
    go_ret
    exact ⟨_, by omega, by omega, rfl, G3.out⟩
  · go_wp2_with fail
    refine (pick_any _ w.heap.size _ _ 16 R1.out B1.out (by omega) (by omega) (by omega)).mono ?_
    rintro e w2 ⟨a1, ha1, rfl, hR2, hg2⟩
    have R2 := Lib.hid hR2
    have B2 := Lib.hid (B1.out.kept hg2)
    have G2 := Lib.hid (gjoin G1.out hg2 (Nat.le_refl _))
    clear hR2 hg2 R1 B1 G1
    go_wp2_with fail
    refine (pick_any _ w.heap.size _ _ 256 R2.out B2.out (by omega) (by omega) (by omega)).mono ?_
    rintro e w3 ⟨a2, ha2, rfl, hR3, hg3⟩
    have R3 := Lib.hid hR3
    have B3 := Lib.hid (B2.out.kept hg3)
    have G3 := Lib.hid (gjoin G2.out hg3 (Nat.le_refl _))
    clear hR3 hg3 R2 B2 G2
    go_wp2_with fail
    refine (pick_any _ w.heap.size _ _ 256 R3.out B3.out (by omega) (by omega) (by omega)).mono ?_
    rintro e w4 ⟨a3, ha3, rfl, hR4, hg4⟩
    have R4 := Lib.hid hR4
    have B4 := Lib.hid (B3.out.kept hg4)
    have G4 := Lib.hid (gjoin G3.out hg4 (Nat.le_refl _))
    clear hR4 hg4 R3 B3 G3
    go_wp2_with fail
    go_ret
    exact ⟨_, by omega, by omega, rfl, G4.out⟩
  · have HL := Lib.hid (list14 w1)
    have hw1 : w.heap.size < w1.heap.size := R1.out.lt
    have R2 := Lib.hid (R1.out.alloc (.cells #[.int .i32 (-1), .int .i32 (-2), .int .i32 1114111, .int .i32 1114112, .int .i32 55296, .int .i32 57343, .int .i32 65533, .int .i32 (-2147483648), .int .i32 2147483647, .int .i32 8490, .int .i32 383, .int .i32 305, .int .i32 304, .int .i32 7838] 21))
    have B2 := Lib.hid (B1.out.kept (World.grownBy_alloc w1 (.cells #[.int .i32 (-1), .int .i32 (-2), .int .i32 1114111, .int .i32 1114112, .int .i32 55296, .int .i32 57343, .int .i32 65533, .int .i32 (-2147483648), .int .i32 2147483647, .int .i32 8490, .int .i32 383, .int .i32 305, .int .i32 304, .int .i32 7838] 21) _))
    have G2 := Lib.hid (galloc G1.out (.cells #[.int .i32 (-1), .int .i32 (-2), .int .i32 1114111, .int .i32 1114112, .int .i32 55296, .int .i32 57343, .int .i32 65533, .int .i32 (-2147483648), .int .i32 2147483647, .int .i32 8490, .int .i32 383, .int .i32 305, .int .i32 304, .int .i32 7838] 21))
    clear R1 B1 G1
    go_wp2_with fail
    refine (pick_any _ w.heap.size _ _ 14 R2.out B2.out (by omega) (by omega) (by omega)).mono ?_
    rintro e w3 ⟨a1, ha1, rfl, hR3, hg3⟩
    have G3 := Lib.hid (gjoin G2.out hg3 (Nat.le_refl _))
    obtain ⟨z, z1, z2, hz⟩ := HL.out a1 (by omega)
    have hz3 := hg3.cell hz (by simp; omega)
    clear hR3 hg3 R2 B2 G2 hz HL
    go_wp2_with fail
    go_ret
    exact ⟨_, z1, z2, rfl, G3.out⟩
  · have hk0 : ((k : Int) == 0) = false := by rw [beq_eq_false_iff_ne]; omega
    have hk1 : ((k : Int) == 1) = false := by rw [beq_eq_false_iff_ne]; omega
    have hk2 : ((k : Int) == 2) = false := by rw [beq_eq_false_iff_ne]; omega
    have hk3 : ((k : Int) == 3) = false := by rw [beq_eq_false_iff_ne]; omega
    go_wp2_with fail
    refine (letter_any _ w.heap.size _ _ R1.out B1.out (by omega)).mono ?_
    rintro e w2 ⟨s, s1, s2, rfl, hR2, hg2⟩
    have G2 := Lib.hid (gjoin G1.out hg2 (Nat.le_refl _))
    clear hR2 hg2 R1 B1 G1
    go_wp2_with fail
    refine (chars_any s _ (by omega)).mono ?_
    rintro e w3 ⟨g, cap2, rfl, hown, hg3⟩
    have G3 := Lib.hid (gtrans G2.out hg3)
    have hne : s.data.toList ≠ [] := by
      intro e
      have := Lib.size_eq s
      rw [e, List.length_nil] at this
      omega
    have hle := decodeL_le_rune s.data.toList
    rw [chars_step _ hne] at hown ⊢
    generalize (decodeL s.data.toList).1 = r0 at *
    generalize chars (List.drop (decodeL s.data.toList).2 s.data.toList) = rs at *
    have hc := hown.cellAt 0 (by simp)
    rw [show (runeVals (r0 :: rs))[0]? = some (.int .i32 (r0 : Int)) from rfl] at hc
    have hlen : (0 : Int) < ((r0 :: rs).length : Int) := by simp
    generalize (r0 :: rs).length = L at *
    clear hown hg3 hne G2
    go_wp2_with fail
    go_ret
    exact ⟨_, by omega, by omega, rfl, G3.out⟩

/-- spec.DrawSimpleFold at every input -/
theorem drawRune_any (w : World) (bv : Value) (hC : CodeAt w bv) :
    Calls Tryd.prog 43 #[bv] w (RunePost w) := by
  have hC' := hC
  rcases hC with ⟨a, cap, rfl⟩ | ⟨b, off, len, cap, rfl, hl, _, _, hc⟩
  · exact drawRune_rest w _ 0 cap a rfl rfl hC'
  · by_cases h4 : len = 4
    · subst h4
      obtain ⟨c0, b0, h0⟩ := hc 0 (by omega)
      obtain ⟨c1, b1, h1⟩ := hc 1 (by omega)
      obtain ⟨c2, b2, h2⟩ := hc 2 (by omega)
      obtain ⟨c3, b3, h3⟩ := hc 3 (by omega)
      exact drawRune_four w b off cap c0 c1 c2 c3 b0 b1 b2 b3 h0 h1 h2 h3
    · exact drawRune_rest w _ len cap _ rfl (by rw [beq_eq_false_iff_ne]; omega) hC'
end Go.Proofs.YtnlbeljdlmgclaaDoor
