/- The three laws on SimpleFold: for every input the call returns true, and nothing that was there changes. -/
import Derived.Test.YtmobodjighkilaaDoorKinW
import Derived.Test.YtmobodjighkilaaDoorDrawRune
namespace Go.Proofs.YtmobodjighkilaaDoor
open Go.RowKit Go.Lib Go.Ftx

theorem FoldTabs.grown {w w' : World} (h : FoldTabs w) (hg : w.grownBy w' none) : FoldTabs w' := FoldTabs_below h (gbelow hg)

set_option maxHeartbeats 1000000 in
theorem foldNone_walk (w : World) (l : List UInt8) (bv : Value) (hb : BytesL w bv l) (hT : FoldTabs w) :
    Calls Tryd.prog 4 #[bv] w (TruePost w) := by
  have hv := hb.code
  clear hb
  rcases hv.split with ⟨a, len, cap, rfl, hl, hl2⟩ | ⟨⟨a, len, cap, rfl, hl⟩, hC⟩
  · clear hv hT
    have hl' : (1048576 : Int) < (len : Int) := by omega
    go_enter Tryd.func4, Tryd.ntmps4
    go_wp2
    go_ret
    exact ⟨rfl, grefl w none⟩
  · have hl' : ¬ (1048576 : Int) < (len : Int) := by omega
    have HC := Lib.hid hC
    have HT := Lib.hid hT
    clear hv hC hT
    go_enter Tryd.func4, Tryd.ntmps4
    go_wp2_with fail
    refine (drawRune_any _ _ HC.out).mono ?_
    rintro e w1 ⟨r, r1, r2, rfl, hg1⟩
    have G1 := Lib.hid hg1
    have T1 := Lib.hid (HT.out.grown hg1)
    clear hg1 HC HT
    by_cases hr : 0 ≤ r ∧ r ≤ 1114111
    · obtain ⟨hr0, hr1⟩ := hr
      have hnn := foldU_nonneg r hr0 hr1
      go_wp2_with fail
      refine (implFold_any r w1 T1.out).mono ?_
      rintro e w' ⟨rfl, q, rfl⟩
      obtain ⟨hn0, hn1⟩ := hnn
      have hk : kinB r r = true := kinB_true (k := 0) (by omega) rfl
      by_cases hz : r = 0
      · subst hz
        generalize foldU 0 = y at *
        go_wp2_with fail
        go_ret
        exact ⟨rfl, gdrewN G1.out _⟩
      · have hzb : (r == 0) = false := by simpa using hz
        have hy := foldU_ne_zero r hz
        have cK := Lib.hid (kin_any r r (w1.drewN q) (T1.out.drewN q))
        rw [hk] at cK
        have cF := Lib.hid fun q' => implFold_any r (w1.drewN q') (T1.out.drewN q')
        generalize foldU r = y at *
        have hyb : (y != 0) = true := by simpa using hy
        clear hk hz hy
        go_wp2_with fail
        refine cK.out.mono ?_
        rintro e w' ⟨rfl, q2, rfl⟩
        go_wp2_with fail
        refine (cF.out (q + q2)).mono ?_
        rintro e w' ⟨rfl, q3, rfl⟩
        go_wp2_with fail
        go_ret
        exact ⟨rfl, gdrewN G1.out _⟩
    · have cF := Lib.hid (implFold_any r w1 T1.out)
      rw [foldU_outside r (by omega)] at cF
      by_cases hr0 : r < 0
      · clear hr
        go_wp2_with fail
        refine cF.out.mono ?_
        rintro e w' ⟨rfl, q, rfl⟩
        go_wp2_with fail
        go_ret
        exact ⟨rfl, gdrewN G1.out _⟩
      · have hr1 : 1114111 < r := by omega
        have hr2 : 0 ≤ r := by omega
        clear hr hr0
        go_wp2_with fail
        refine cF.out.mono ?_
        rintro e w' ⟨rfl, q, rfl⟩
        go_wp2_with fail
        go_ret
        exact ⟨rfl, gdrewN G1.out _⟩

theorem and127 (z : Int) : ∃ n : Nat, n < 128 ∧ bits .and .i32 z 127 = (n : Int) := by
  refine ⟨(BitVec.ofInt 32 z &&& BitVec.ofInt 32 127).toNat, ?_, ?_⟩
  · rw [BitVec.toNat_and, show (BitVec.ofInt 32 127).toNat = 127 by decide]
    exact Nat.lt_of_le_of_lt Nat.and_le_right (by omega)
  · have h : (BitVec.ofInt 32 z &&& BitVec.ofInt 32 127).toNat ≤ 127 := by
      rw [BitVec.toNat_and, show (BitVec.ofInt 32 127).toNat = 127 by decide]
      exact Nat.and_le_right
    show IntKind.i32.wrap ((BitVec.ofInt 32 z &&& BitVec.ofInt 32 127).toNat : Int) = _
    generalize (BitVec.ofInt 32 z &&& BitVec.ofInt 32 127).toNat = m at *
    simp [IntKind.wrap, IntKind.bits, IntKind.signed]
    omega

set_option maxHeartbeats 1000000 in
theorem foldAscii_walk (w : World) (l : List UInt8) (bv : Value) (hb : BytesL w bv l) (hT : FoldTabs w) :
    Calls Tryd.prog 3 #[bv] w (TruePost w) := by
  have hv := hb.code
  clear hb
  rcases hv.split with ⟨a, len, cap, rfl, hl, hl2⟩ | ⟨⟨a, len, cap, rfl, hl⟩, hC⟩
  · clear hv hT
    have hl' : (1048576 : Int) < (len : Int) := by omega
    go_enter Tryd.func3, Tryd.ntmps3
    go_wp2
    go_ret
    exact ⟨rfl, grefl w none⟩
  · have hl' : ¬ (1048576 : Int) < (len : Int) := by omega
    have HC := Lib.hid hC
    have HT := Lib.hid hT
    clear hv hC hT
    go_enter Tryd.func3, Tryd.ntmps3
    go_wp2_with fail
    refine (drawRune_any _ _ HC.out).mono ?_
    rintro e w1 ⟨z, r1, r2, rfl, hg1⟩
    have G1 := Lib.hid hg1
    have T1 := Lib.hid (HT.out.grown hg1)
    clear hg1 HC HT
    obtain ⟨n, hn, ez⟩ := and127 z
    go_wp2_with fail
    have hfa := ascii_fold n hn
    refine (implFold_any n w1 T1.out).mono ?_
    rintro e w' ⟨rfl, q, rfl⟩
    clear ez
    have cF := Lib.hid fun x q' => implFold_any x (w1.drewN q') (T1.out.drewN q')
    by_cases hk : (n : Int) = 107
    · rw [if_pos hk] at hfa
      have hkb : ((n : Int) == 107) = true := by simpa using hk
      obtain ⟨e1, e2⟩ := hfa
      rw [e1]
      have c2 := Lib.hid (cF.out 8490 q)
      rw [e2] at c2
      clear e1 e2 hk
      go_wp2_with fail
      refine c2.out.mono ?_
      rintro e w' ⟨rfl, q, rfl⟩
      go_wp2_with fail
      go_ret
      exact ⟨rfl, gdrewN G1.out _⟩
    · rw [if_neg hk] at hfa
      have hkb : ((n : Int) == 107) = false := by simpa using hk
      by_cases hs : (n : Int) = 115
      · rw [if_pos hs] at hfa
        have hsb : ((n : Int) == 115) = true := by simpa using hs
        obtain ⟨e1, e2⟩ := hfa
        rw [e1]
        have c2 := Lib.hid (cF.out 383 q)
        rw [e2] at c2
        clear e1 e2 hk hs
        go_wp2_with fail
        refine c2.out.mono ?_
        rintro e w' ⟨rfl, q, rfl⟩
        go_wp2_with fail
        go_ret
        exact ⟨rfl, gdrewN G1.out _⟩
      · rw [if_neg hs] at hfa
        have hsb : ((n : Int) == 115) = false := by simpa using hs
        by_cases hlo : lowerZ n ≠ n
        · rw [if_pos hlo] at hfa
          rw [hfa]
          have hlb : (lowerZ (n : Int) != (n : Int)) = true := by simpa using hlo
          have cL := Lib.hid fun W => lower_any (n : Int) W (by omega) (by omega)
          generalize lowerZ (n : Int) = L at *
          clear hk hs hlo hfa
          go_wp2_with fail
          refine (cL.out _).mono ?_
          rintro e w' ⟨rfl, rfl⟩
          go_wp2_with fail
          refine (cL.out _).mono ?_
          rintro e w' ⟨rfl, rfl⟩
          go_wp2_with fail
          go_ret
          exact ⟨rfl, gdrewN G1.out _⟩
        · rw [if_neg hlo] at hfa
          rw [hfa]
          have hlb : (lowerZ (n : Int) != (n : Int)) = false := by simpa using hlo
          have cL := Lib.hid fun W => lower_any (n : Int) W (by omega) (by omega)
          have cU := Lib.hid fun W => upper_any (n : Int) W (by omega) (by omega)
          generalize lowerZ (n : Int) = L at *
          generalize upperZ (n : Int) = U at *
          clear hk hs hlo hfa
          go_wp2_with fail
          refine (cL.out _).mono ?_
          rintro e w' ⟨rfl, rfl⟩
          go_wp2_with fail
          refine (cU.out _).mono ?_
          rintro e w' ⟨rfl, rfl⟩
          go_wp2_with fail
          go_ret
          exact ⟨rfl, gdrewN G1.out _⟩

set_option maxHeartbeats 1000000 in
theorem foldOrbit_walk (w : World) (l : List UInt8) (bv : Value) (hb : BytesL w bv l) (hT : FoldTabs w) :
    Calls Tryd.prog 5 #[bv] w (TruePost w) := by
  have hv := hb.code
  clear hb
  rcases hv.split with ⟨a, len, cap, rfl, hl, hl2⟩ | ⟨⟨a, len, cap, rfl, hl⟩, hC⟩
  · clear hv hT
    have hl' : (1048576 : Int) < (len : Int) := by omega
    go_enter Tryd.func5, Tryd.ntmps5
    go_wp2
    go_ret
    exact ⟨rfl, grefl w none⟩
  · have hl' : ¬ (1048576 : Int) < (len : Int) := by omega
    have HC := Lib.hid hC
    have HT := Lib.hid hT
    clear hv hC hT
    go_enter Tryd.func5, Tryd.ntmps5
    go_wp2_with fail
    refine (drawRune_any _ _ HC.out).mono ?_
    rintro e w1 ⟨r, r1, r2, rfl, hg1⟩
    have G1 := Lib.hid hg1
    have T1 := Lib.hid (HT.out.grown hg1)
    clear hg1 HC HT
    have H0 := Lib.hid (orbRun_all r)
    go_wp2_with fail
    go_loopg [4, 5, 6] 8 (fun g s4 s5 s6 wx => ∃ (x : Int) (d k q : Nat), k + g = 8 ∧ d ≤ k ∧ s4 = .int .i32 x ∧ s5 = .int .i64 d ∧ s6 = .int .i64 k ∧ orbRun r g x d = (r, 1) ∧ wx = w1.drewN q)
    case atStart => exact ⟨r, 0, 0, 0, rfl, by omega, rfl, rfl, rfl, H0.out, rfl⟩
    case round =>
      obtain ⟨x, d, k, q, hk, hdk, rfl, rfl, rfl, hrun, rfl⟩ := hrel
      have HR := Lib.hid hrun
      clear hrun H0
      by_cases hk8 : k < 8
      · have hz : (k : Int) < 8 := by omega
        obtain ⟨g', rfl⟩ : ∃ g', gk = g' + 1 := ⟨gk - 1, by omega⟩
        have cF := Lib.hid (implFold_any x (w1.drewN q) (T1.out.drewN q))
        by_cases hb : foldU x = r
        · have hrun := HR.out
          rw [orb_hit g' d hb] at hrun
          simp only [Prod.mk.injEq, true_and] at hrun
          rw [hb] at cF
          have hbb : (r == r) = true := by simp
          by_cases hle : r ≤ x
          · have hd : d = 0 := by simp [dn, hle] at hrun; omega
            subst hd
            clear hb hrun HR
            go_wp2_with fail
            refine cF.out.mono ?_
            rintro e w' ⟨rfl, q2, rfl⟩
            go_wp2_with fail
            go_ret
            exact ⟨rfl, gdrewN G1.out _⟩
          · have hd : d = 1 := by simp [dn, hle] at hrun; omega
            subst hd
            clear hb hrun HR
            go_wp2_with fail
            refine cF.out.mono ?_
            rintro e w' ⟨rfl, q2, rfl⟩
            go_wp2_with fail
            go_ret
            exact ⟨rfl, gdrewN G1.out _⟩
        · have hrun := HR.out
          rw [orb_miss g' d hb] at hrun
          generalize foldU x = y at *
          have hbb : (y == r) = false := by simpa using hb
          by_cases hle : y ≤ x
          · rw [show dn x y = 1 by simp [dn, hle]] at hrun
            have HR' := Lib.hid hrun
            clear hb hrun HR
            go_wp2_with fail
            refine cF.out.mono ?_
            rintro e w' ⟨rfl, q2, rfl⟩
            go_wp2_with fail
            go_roundg g'
            case measure => omega
            case rel => exact ⟨y, d + 1, k + 1, _, by omega, by omega, rfl, by go_num, by go_num, HR'.out, rfl⟩
          · rw [show dn x y = 0 by simp [dn, hle]] at hrun
            have HR' := Lib.hid hrun
            clear hb hrun HR
            go_wp2_with fail
            refine cF.out.mono ?_
            rintro e w' ⟨rfl, q2, rfl⟩
            go_wp2_with fail
            go_roundg g'
            case measure => omega
            case rel => exact ⟨y, d, k + 1, _, by omega, by omega, rfl, rfl, by go_num, HR'.out, rfl⟩
      · have hz : ¬ (k : Int) < 8 := by omega
        obtain rfl : gk = 0 := by omega
        have hrun := HR.out
        simp only [orbRun, Prod.mk.injEq] at hrun
        obtain ⟨rfl, rfl⟩ := hrun
        clear HR
        have hbb : (x == x) = true := by simp
        go_wp2_with fail
        go_ret
        exact ⟨rfl, gdrewN G1.out _⟩
end Go.Proofs.YtmobodjighkilaaDoor
