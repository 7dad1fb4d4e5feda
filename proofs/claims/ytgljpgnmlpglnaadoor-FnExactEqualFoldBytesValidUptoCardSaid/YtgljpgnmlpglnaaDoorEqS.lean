/- strings.EqualFold tells whether the characters of two texts are equivalent, one by one. -/
import Derived.Test.YtgljpgnmlpglnaaDoorKinL
import Derived.Test.YtgljpgnmlpglnaaDoorKinW
import Derived.Test.YtgljpgnmlpglnaaDoorUtf8
import Derived.WalkMore
import Derived.ScopeJumps
import Derived.Lib.OthersKept
import Derived.Laws.Strings3
import Derived.Laws.DeepStrings4
namespace Go.Proofs.YtgljpgnmlpglnaaDoor
open Go.Shelf Go.RowKit Go.Lib Go.Ftx

theorem drop_ne {s : ByteArray} {pos : Nat} (h : pos < s.size) : s.data.toList.drop pos ≠ [] := by
  intro h0
  have := congrArg List.length h0
  rw [List.length_drop, ← Lib.size_eq, List.length_nil] at this
  omega
theorem toList_ne {s : ByteArray} (h : s.size ≠ 0) : s.data.toList ≠ [] := by
  intro h0
  have := Lib.size_eq s
  rw [h0, List.length_nil] at this
  omega
/-- a new iterator: what was there stays -/
theorem giter (w : World) (s : ByteArray) (pos : Nat) : w.grownBy (w.iter s pos) none := World.grownBy_alloc w _ none
theorem giterAt {a w : World} (h : a.grownBy w none) {k : Nat} (hk : a.heap.size ≤ k) (s : ByteArray) (pos : Nat) : a.grownBy (w.iterAt k s pos) none := belowg (Lib.below_iterAt (gbelow h) hk s pos)
theorem orbitB {a b : Int} (h : a ≠ b) : (a != b) = true := by simpa using h

set_option maxHeartbeats 4000000 in
set_option maxRecDepth 1000000 in
theorem equalFold_any (s t : ByteArray) (w : World) (hs : s.size ≤ 4611686018427387904) (ht : t.size ≤ 4611686018427387904) (hT : FoldTabs w) (hU : Utf8T w) :
    Calls Tryd.prog 29 #[.string s, .string t] w fun e w' => e = .returned (.bool (eqF s.data.toList t.data.toList)) ∧ w.grownBy w' none := by
  obtain ⟨M, hM⟩ : ∃ M : Nat, min (s.size : Int) (t.size : Int) = (M : Int) := ⟨min s.size t.size, by omega⟩
  have hMs : M ≤ s.size := by omega
  have hMt : M ≤ t.size := by omega
  have hMe : M = s.size ∨ M = t.size := by omega
  have HME := Lib.hid hMe
  have HT := Lib.hid hT
  have HU := Lib.hid hU
  generalize hANS : eqF s.data.toList t.data.toList = ANS
  have HA := Lib.hid hANS
  clear hMe hT hU hANS
  go_enter Tryd.func29, Tryd.ntmps29
  go_wp2
  refine wp_scope_jumps 0 (fun a' w' => w = w' ∧ ∃ (k : Nat) (u4 u7 u8 u19 u20 u21 u22 u23 u24 u25 u26 u27 u28 u29 u30 u31 u32 u33 u34 u35 u36 u37 u38 u39 u40 u41 u42 u43 u44 u45 u46 u47 u48 u49 u50 u51 u52 u53 u54 : Value), a' = { tmps := #[.string s, .string t, undef, undef, u4, .int .i64 (k : Int), .int .i64 (M : Int), u7, u8, undef, undef, undef, undef, undef, .string s, .int .i64 (s.size : Int), .string t, .int .i64 (t.size : Int), .int .i64 (M : Int), u19, u20, u21, u22, u23, u24, u25, u26, u27, u28, u29, u30, u31, u32, u33, u34, u35, u36, u37, u38, u39, u40, u41, u42, u43, u44, u45, u46, u47, u48, u49, u50, u51, u52, u53, u54, undef, undef, undef, undef, undef, undef, undef, undef, undef, undef, undef, undef, undef, undef, undef, undef, undef, undef, undef, undef, undef, undef, undef, undef, undef, undef, undef, undef, undef, undef, undef, undef, undef, undef, undef, undef, undef, undef, undef, undef, undef, undef, undef, undef, undef, undef, undef, undef, undef, undef, undef, undef, undef, undef, undef, undef, undef, undef, undef, undef, undef, undef, undef, undef, undef, undef, undef, undef], defers := [] } ∧ k < M ∧ Hid (eqF (s.data.toList.drop k) (t.data.toList.drop k) = ANS)) (fun _ _ => 0) rfl ?_ ?_
  · go_wp2
    go_loopg [5] M (fun g s5 wx => w = wx ∧ ∃ i : Nat, i + g = M ∧ s5 = .int .i64 i ∧ Hid (eqF (s.data.toList.drop i) (t.data.toList.drop i) = ANS))
    case atStart => exact ⟨rfl, 0, by omega, rfl, HA.out⟩
    case round =>
      obtain ⟨rfl, i, hig, rfl, HI⟩ := hrel
      clear HA hM
      cases gk with
      | zero =>
        have hiM : ¬ ((i : Int) < (M : Int)) := by omega
        obtain rfl : i = M := by omega
        have hE : ANS = decide (s.size = t.size) := by
          rw [← HI.out, eqF_end _ _ (by
            rcases HME.out with h | h
            · exact Or.inl (List.drop_eq_nil_of_le (by rw [← Lib.size_eq]; omega))
            · exact Or.inr (List.drop_eq_nil_of_le (by rw [← Lib.size_eq]; omega))), List.length_drop, List.length_drop, ← Lib.size_eq, ← Lib.size_eq]
          exact decide_eq_decide.2 (by omega)
        have HE := Lib.hid hE
        clear hE
        by_cases hst : s.size = t.size
        · have hb : ((s.size : Int) == (t.size : Int)) = true := beq_iff_eq.2 (by omega)
          have hE2 := Lib.hid (HE.out.trans (decide_eq_true hst))
          clear HE hst
          go_wp2
          simp only [Exit.jump]
          go_ret
          exact ⟨congrArg (fun z => Ending.returned (.bool z)) hE2.out.symm, grefl w none⟩
        · have hb : ((s.size : Int) == (t.size : Int)) = false := beq_eq_false_iff_ne.2 (by omega)
          have hE2 := Lib.hid (HE.out.trans (decide_eq_false hst))
          clear HE hst
          go_wp2
          simp only [Exit.jump]
          go_ret
          exact ⟨congrArg (fun z => Ending.returned (.bool z)) hE2.out.symm, grefl w none⟩
      | succ g =>
        have hiM : (i : Int) < (M : Int) := by omega
        have hisz : (i : Int) < (s.size : Int) := by omega
        have hitz : (i : Int) < (t.size : Int) := by omega
        obtain ⟨x, hx⟩ : ∃ x : UInt8, s[i]'(by omega) = x := ⟨_, rfl⟩
        obtain ⟨y, hy⟩ : ∃ y : UInt8, t[i]'(by omega) = y := ⟨_, rfl⟩
        have hxl : s.data.toList[i]? = some x := by rw [← hx]; exact Lib.data_getElem? s i (by omega)
        have hyl : t.data.toList[i]? = some y := by rw [← hy]; exact Lib.data_getElem? t i (by omega)
        have Hx := Lib.hid (show s.data.toList[i]? = some x ∧ t.data.toList[i]? = some y from ⟨hxl, hyl⟩)
        have hx256 := UInt8.toNat_lt x
        have hy256 := UInt8.toNat_lt y
        have hor : bits .or .u8 (x.toNat : Int) (y.toNat : Int) = ((x.toNat ||| y.toNat : Nat) : Int) := u8_or_nat _ _ (by omega) (by omega)
        clear hxl hyl
        by_cases hasc : x.toNat < 128 ∧ y.toNat < 128
        · obtain ⟨hx128, hy128⟩ := hasc
          have hor128 : ¬ ((128 : Int) ≤ ((x.toNat ||| y.toNat : Nat) : Int)) := by have := Nat.or_lt_two_pow (n := 7) hx128 hy128; omega
          go_wp2
          all_goals (try simp only [beq_iff_eq, beq_eq_false_iff_ne, ne_eq] at *)
          all_goals first
            | (go_roundg g
               case measure => omega
               case rel => exact ⟨rfl, i + 1, by omega, by first | rfl | simp, Lib.hid (eqF_go Hx.out hx128 hy128 HI.out (by omega))⟩)
            | (simp only [Exit.jump]
               go_ret
               exact ⟨congrArg (fun z => Ending.returned (.bool z)) (eqF_no Hx.out hx128 hy128 HI.out (by omega)).symm, grefl w none⟩)
        · have hor128 : (128 : Int) ≤ ((x.toNat ||| y.toNat : Nat) : Int) := by
            have h1 : x.toNat ≤ x.toNat ||| y.toNat := Nat.left_le_or
            have h2 : y.toNat ≤ x.toNat ||| y.toNat := Nat.right_le_or
            omega
          go_wp2
          go_step3
          refine ⟨rfl, rfl, i, _, _, _, _, _, _, _, _, _, _, _, _, _, _, _, _, _, _, _, _, _, _, _, _, _, _, _, _, _, _, _, _, _, _, _, _, _, _, _, rfl, by omega, HI⟩
  · rintro a' w' ⟨rfl, k, u4, u7, u8, u19, u20, u21, u22, u23, u24, u25, u26, u27, u28, u29, u30, u31, u32, u33, u34, u35, u36, u37, u38, u39, u40, u41, u42, u43, u44, u45, u46, u47, u48, u49, u50, u51, u52, u53, u54, rfl, hkM, HI⟩
    clear HA hM HME
    have hk0 : (0 : Int) ≤ (k : Int) := by omega
    have hks : (k : Int) ≤ (s.size : Int) := by omega
    have hkt : (k : Int) ≤ (t.size : Int) := by omega
    obtain ⟨s1, hs1⟩ : ∃ s1, s.extract k s.size = s1 := ⟨_, rfl⟩
    obtain ⟨t1, ht1⟩ : ∃ t1, t.extract k t.size = t1 := ⟨_, rfl⟩
    have hl1 : s1.data.toList = s.data.toList.drop k := by rw [← hs1, Lib.extract_data, List.take_of_length_le (by rw [List.length_drop, ← Lib.size_eq]; omega)]
    have hl2 : t1.data.toList = t.data.toList.drop k := by rw [← ht1, Lib.extract_data, List.take_of_length_le (by rw [List.length_drop, ← Lib.size_eq]; omega)]
    have HI1 := Lib.hid (show eqF s1.data.toList t1.data.toList = ANS by rw [hl1, hl2]; exact HI.out)
    have hz1 : s1.size ≤ 4611686018427387904 := by have := congrArg List.length hl1; rw [← Lib.size_eq, List.length_drop, ← Lib.size_eq] at this; omega
    have hz2 : t1.size ≤ 4611686018427387904 := by have := congrArg List.length hl2; rw [← Lib.size_eq, List.length_drop, ← Lib.size_eq] at this; omega
    clear hl1 hl2 HI
    go_wp2_with fail
    go_loopg [1] s1.size (fun g v1 wx => ∃ (pos : Nat) (tt : ByteArray), v1 = .string tt ∧ wx.heap[w.heap.size]? = some (.stringIter s1 pos) ∧ w.grownBy wx none ∧ Hid (eqF (s1.data.toList.drop pos) tt.data.toList = ANS) ∧
      s1.size ≤ pos + g ∧ pos ≤ s1.size ∧ tt.size ≤ 4611686018427387904)
    case atStart => exact ⟨0, t1, rfl, World.iter_heap w s1 0, giter w s1 0, by rw [List.drop_zero]; exact HI1, by omega, by omega, hz2⟩
    case round =>
      obtain ⟨pos, tt, rfl, hit, hgw, HP, hfu, hps, hzt⟩ := hrel
      have GW := Lib.hid hgw
      have IT := Lib.hid hit
      clear hgw HI1
      by_cases hlt : pos < s1.size
      · obtain ⟨g', rfl⟩ : ∃ g', gk = g' + 1 := ⟨gk - 1, by omega⟩
        have hnx : ∀ ty, (Instr.next (.pointer (some ⟨w.heap.size, 0, none⟩)) true ty).run Tryd.prog wr = _ := fun ty => Lib.run_next_any_at wr w.heap.size s1 pos ty hit hlt
        have hne := drop_ne hlt
        have hwd := Lib.width_pos s1 pos
        have hwn : pos + (Utf8.decode s1 pos).2 ≤ s1.size := by
          have := Lib.decodeL_le _ hne
          rw [Lib.decodeL_drop, List.length_drop, ← Lib.size_eq] at this
          omega
        have hrl := Lib.rune_le s1 pos
        have IT2 := Lib.hid (Lib.iterAt_heap wr w.heap.size s1 pos (pos + (Utf8.decode s1 pos).2) hit)
        have GA := Lib.hid (giterAt GW.out (k := w.heap.size) (Nat.le_refl _) s1 (pos + (Utf8.decode s1 pos).2))
        have hdl : decodeL (s1.data.toList.drop pos) = Utf8.decode s1 pos := Lib.decodeL_drop s1 pos
        obtain ⟨R, hR⟩ : ∃ R, (Utf8.decode s1 pos).1 = R := ⟨_, rfl⟩
        obtain ⟨K, hK⟩ : ∃ K, (Utf8.decode s1 pos).2 = K := ⟨_, rfl⟩
        have HD := Lib.hid (show decodeL (s1.data.toList.drop pos) = (R, K) by rw [hdl, ← hR, ← hK])
        rw [hR, hK] at hnx
        rw [hK] at hwd hwn IT2 GA
        rw [hR] at hrl
        have HNE := Lib.hid hne
        clear hdl hR hK hit hne IT GW
        generalize wr.iterAt w.heap.size s1 (pos + K) = W at *
        by_cases ht0 : tt.size = 0
        · have hb : ((tt.size : Int) == 0) = true := by simpa using ht0
          have htl : tt.data.toList = [] := List.length_eq_zero_iff.1 (by rw [← Lib.size_eq]; exact ht0)
          have HE := Lib.hid (show ANS = false by
            rw [← HP.out, htl, eqF_end _ _ (.inr rfl), List.length_nil]
            exact decide_eq_false (fun e => HNE.out (List.length_eq_zero_iff.1 e)))
          clear htl ht0
          go_wp2_with fail
          simp only [Exit.jump]
          go_ret
          exact ⟨congrArg (fun z => Ending.returned (.bool z)) HE.out.symm, GA.out⟩
        · have hb : ((tt.size : Int) == 0) = false := by rw [beq_eq_false_iff_ne]; omega
          have htn := toList_ne ht0
          have cD := Tryd.utf8_DecodeRuneInString tt W (HU.out.grown GA.out)
          have hdg : Lib.decodeGo tt = decodeL tt.data.toList := by
            unfold Lib.decodeGo
            rw [if_neg ht0]
            have := Lib.decodeL_drop tt 0
            rw [List.drop_zero] at this
            exact this.symm
          rw [hdg] at cD
          have hw2 := decodeL_pos _ htn
          have hw3 := Lib.decodeL_le _ htn
          rw [← Lib.size_eq] at hw3
          have hr2 : (decodeL tt.data.toList).1 ≤ 1114111 := Lib.rune_le ⟨tt.data.toList.toArray⟩ 0
          have HSP := Lib.hid (eqF_step _ _ HNE.out htn)
          rw [HD.out] at HSP
          obtain ⟨R2, hR2⟩ : ∃ R2, (decodeL tt.data.toList).1 = R2 := ⟨_, rfl⟩
          obtain ⟨K2, hK2⟩ : ∃ K2, (decodeL tt.data.toList).2 = K2 := ⟨_, rfl⟩
          rw [hR2, hK2] at cD HSP
          rw [hR2] at hr2
          rw [hK2] at hw2 hw3
          obtain ⟨t2, ht2⟩ : ∃ t2, tt.extract K2 tt.size = t2 := ⟨_, rfl⟩
          have hl2 : t2.data.toList = tt.data.toList.drop K2 := by rw [← ht2, Lib.extract_data, List.take_of_length_le (by rw [List.length_drop, ← Lib.size_eq]; omega)]
          have hz3 : t2.size ≤ 4611686018427387904 := by have := congrArg List.length hl2; rw [← Lib.size_eq, List.length_drop, ← Lib.size_eq] at this; omega
          have HS := Lib.hid (show (kinB (R : Int) (R2 : Int) && eqF (s1.data.toList.drop (pos + K)) t2.data.toList) = ANS by
            rw [hl2, ← HP.out, HSP.out, List.drop_drop])
          have hk2a : (0 : Int) ≤ (K2 : Int) := by omega
          have hk2b : (K2 : Int) ≤ (tt.size : Int) := by omega
          have CD := Lib.hid cD
          clear hR2 hK2 hdg HSP hl2 htn HP HD HNE cD ht0
          go_wp2_with fail
          refine CD.out.mono ?_
          rintro e W1 ⟨rfl, hb1⟩
          have G1 := Lib.hid (gtrans GA.out (belowg hb1))
          have IT1 := Lib.hid ((hb1.block _ (Array.getElem?_eq_some_iff.1 IT2.out).1).trans IT2.out)
          clear hb1 CD hnx GA IT2
          by_cases he : R2 = R
          · subst he
            have hbb : ((R2 : Int) == (R2 : Int)) = true := by simp
            have HS' := Lib.hid (show eqF (s1.data.toList.drop (pos + K)) t2.data.toList = ANS by rw [← HS.out, kinB_refl, Bool.true_and])
            clear HS
            go_wp2_with fail
            go_roundg g'
            case measure => omega
            case rel => exact ⟨pos + K, t2, rfl, IT1.out, G1.out, HS'.out, by omega, hwn, hz3⟩
          · have hbb : ((R2 : Int) == (R : Int)) = false := by rw [beq_eq_false_iff_ne]; omega
            by_cases hsw : R2 < R
            · have hswz : (R2 : Int) < (R : Int) := by omega
              have hsy := Lib.hid (kinB_symm (R : Int) (R2 : Int))
              by_cases ha : R < 128
              · have haz : (R : Int) < 128 := by omega
                have hkl := kinB_letters R R2 ha (by omega)
                have HK := Lib.hid hkl
                clear hkl
                by_cases hl : 65 ≤ R2 ∧ R2 ≤ 90 ∧ R = R2 + 32
                · obtain ⟨q1, q2, q3⟩ := hl
                  have HS' := Lib.hid (show eqF (s1.data.toList.drop (pos + K)) t2.data.toList = ANS by rw [← HS.out, HK.out, decide_eq_true (by omega), Bool.true_and])
                  have q1z : (65 : Int) ≤ (R2 : Int) := by omega
                  have q2z : (R2 : Int) ≤ 90 := by omega
                  have q3z : ((R : Int) == (R2 : Int) + 97 - 65) = true := by rw [beq_iff_eq]; omega
                  clear HS HK q3
                  go_wp2_with fail
                  go_roundg g'
                  case measure => omega
                  case rel => exact ⟨pos + K, t2, rfl, IT1.out, G1.out, HS'.out, by omega, hwn, hz3⟩
                · have HE := Lib.hid (show ANS = false by rw [← HS.out, HK.out, decide_eq_false (by omega), Bool.false_and])
                  clear HS HK
                  by_cases q1 : 65 ≤ R2
                  · have q1z : (65 : Int) ≤ (R2 : Int) := by omega
                    by_cases q2 : R2 ≤ 90
                    · have q2z : (R2 : Int) ≤ 90 := by omega
                      have q3z : ((R : Int) == (R2 : Int) + 97 - 65) = false := by rw [beq_eq_false_iff_ne]; omega
                      clear hl
                      go_wp2_with fail
                      simp only [Exit.jump]
                      go_ret
                      exact ⟨congrArg (fun z => Ending.returned (.bool z)) HE.out.symm, G1.out⟩
                    · have q2z : ¬ (R2 : Int) ≤ 90 := by omega
                      clear hl
                      go_wp2_with fail
                      simp only [Exit.jump]
                      go_ret
                      exact ⟨congrArg (fun z => Ending.returned (.bool z)) HE.out.symm, G1.out⟩
                  · have q1z : ¬ (65 : Int) ≤ (R2 : Int) := by omega
                    clear hl
                    go_wp2_with fail
                    simp only [Exit.jump]
                    go_ret
                    exact ⟨congrArg (fun z => Ending.returned (.bool z)) HE.out.symm, G1.out⟩
              · have haz : ¬ (R : Int) < 128 := by omega
                have cF := Lib.hid (simpleFold_any (R2 : Int) W1 (HT.out.grown G1.out))
                go_wp2_with fail
                refine cF.out.mono ?_
                rintro e w' ⟨rfl, q0, rfl⟩
                have hlt' : (R2 : Int) < (R : Int) := by omega
                go_wp2_with fail
                go_loopg [13] 4 (fun g v13 wx => ∃ j q : Nat, j + g = 4 ∧ v13 = .int .i32 (itF (j + 1) (R2 : Int)) ∧ Hid (∀ i, 1 ≤ i → i ≤ j → itF i (R2 : Int) ≠ (R2 : Int) ∧ itF i (R2 : Int) < (R : Int)) ∧ wx = W1.drewN q)
                case atStart => exact ⟨0, q0, rfl, rfl, fun i h1 h2 => absurd h2 (by omega), rfl⟩
                case round =>
                  obtain ⟨j, q, hj, rfl, HB, rfl⟩ := hrel
                  by_cases hx1 : itF (j + 1) (R2 : Int) = (R2 : Int)
                  · have HX := Lib.hid (orbit_exit hlt' j HB.out (.inl hx1))
                    have hne : (R2 : Int) ≠ (R : Int) := by omega
                    rw [hx1] at HX ⊢
                    have hx1b : ((R2 : Int) != (R2 : Int)) = false := by simp
                    have hbb : ((R2 : Int) == (R : Int)) = false := by simpa using hne
                    have hno : kinB (R2 : Int) (R : Int) = false := by rw [← HX.out]; exact decide_eq_false hne
                    have HE := Lib.hid (show ANS = false by rw [← HS.out, hsy.out, hno, Bool.false_and])
                    clear HX hno hx1 HB
                    go_wp2_with fail
                    simp only [Exit.jump]
                    go_ret
                    exact ⟨congrArg (fun z => Ending.returned (.bool z)) HE.out.symm, gdrewN G1.out _⟩
                  · have hx1b : (itF (j + 1) (R2 : Int) != (R2 : Int)) = true := by simpa using hx1
                    by_cases hx2 : itF (j + 1) (R2 : Int) < (R : Int)
                    · have HB' := Lib.hid (show ∀ i, 1 ≤ i → i ≤ j + 1 → itF i (R2 : Int) ≠ (R2 : Int) ∧ itF i (R2 : Int) < (R : Int) from fun i h1 h2 => by
                        by_cases e : i = j + 1
                        · rw [e]; exact ⟨hx1, hx2⟩
                        · exact HB.out i h1 (by omega))
                      obtain ⟨g3, rfl⟩ : ∃ g3, gk = g3 + 1 := by
                        refine ⟨gk - 1, ?_⟩
                        rcases Nat.eq_zero_or_pos gk with h0 | h0
                        · exfalso
                          obtain ⟨p, p1, p2, hp⟩ := period (R2 : Int)
                          exact (HB'.out p p1 (by omega)).1 hp
                        · omega
                      have cF2 := Lib.hid (simpleFold_any (itF (j + 1) (R2 : Int)) (W1.drewN q) ((HT.out.grown G1.out).drewN q))
                      have hnext : foldU (itF (j + 1) (R2 : Int)) = itF (j + 1 + 1) (R2 : Int) := rfl
                      rw [hnext] at cF2
                      generalize hy : itF (j + 1 + 1) (R2 : Int) = yv at *
                      have HY := Lib.hid hy
                      generalize itF (j + 1) (R2 : Int) = xv at *
                      clear hy hnext hx1 HB
                      go_wp2_with fail
                      refine cF2.out.mono ?_
                      rintro e w' ⟨rfl, q2, rfl⟩
                      go_wp2_with fail
                      go_roundg g3
                      case measure => omega
                      case rel => exact ⟨j + 1, _, by omega, by rw [HY.out], HB'.out, rfl⟩
                    · have HX := Lib.hid (orbit_exit hlt' j HB.out (.inr (by omega)))
                      generalize itF (j + 1) (R2 : Int) = xv at *
                      by_cases hx3 : xv = (R : Int)
                      · have hx3b : (xv == (R : Int)) = true := by simpa using hx3
                        have HS' := Lib.hid (show eqF (s1.data.toList.drop (pos + K)) t2.data.toList = ANS by rw [← HS.out, hsy.out, ← HX.out, decide_eq_true hx3, Bool.true_and])
                        clear hx1 hx3 HB HX HS
                        go_wp2_with fail
                        go_roundg g'
                        case measure => omega
                        case rel => exact ⟨pos + K, t2, rfl, IT1.out, gdrewN G1.out _, HS'.out, by omega, hwn, hz3⟩
                      · have hx3b : (xv == (R : Int)) = false := by simpa using hx3
                        have HE := Lib.hid (show ANS = false by rw [← HS.out, hsy.out, ← HX.out, decide_eq_false hx3, Bool.false_and])
                        clear hx1 hx3 HB HX HS
                        go_wp2_with fail
                        simp only [Exit.jump]
                        go_ret
                        exact ⟨congrArg (fun z => Ending.returned (.bool z)) HE.out.symm, gdrewN G1.out _⟩
            · have hswz : ¬ (R2 : Int) < (R : Int) := by omega
              by_cases ha : R2 < 128
              · have haz : (R2 : Int) < 128 := by omega
                have hkl := kinB_letters R R2 (by omega) ha
                have HK := Lib.hid hkl
                clear hkl
                by_cases hl : 65 ≤ R ∧ R ≤ 90 ∧ R2 = R + 32
                · obtain ⟨q1, q2, q3⟩ := hl
                  have HS' := Lib.hid (show eqF (s1.data.toList.drop (pos + K)) t2.data.toList = ANS by rw [← HS.out, HK.out, decide_eq_true (by omega), Bool.true_and])
                  have q1z : (65 : Int) ≤ (R : Int) := by omega
                  have q2z : (R : Int) ≤ 90 := by omega
                  have q3z : ((R2 : Int) == (R : Int) + 97 - 65) = true := by rw [beq_iff_eq]; omega
                  clear HS HK q3
                  go_wp2_with fail
                  go_roundg g'
                  case measure => omega
                  case rel => exact ⟨pos + K, t2, rfl, IT1.out, G1.out, HS'.out, by omega, hwn, hz3⟩
                · have HE := Lib.hid (show ANS = false by rw [← HS.out, HK.out, decide_eq_false (by omega), Bool.false_and])
                  clear HS HK
                  by_cases q1 : 65 ≤ R
                  · have q1z : (65 : Int) ≤ (R : Int) := by omega
                    by_cases q2 : R ≤ 90
                    · have q2z : (R : Int) ≤ 90 := by omega
                      have q3z : ((R2 : Int) == (R : Int) + 97 - 65) = false := by rw [beq_eq_false_iff_ne]; omega
                      clear hl
                      go_wp2_with fail
                      simp only [Exit.jump]
                      go_ret
                      exact ⟨congrArg (fun z => Ending.returned (.bool z)) HE.out.symm, G1.out⟩
                    · have q2z : ¬ (R : Int) ≤ 90 := by omega
                      clear hl
                      go_wp2_with fail
                      simp only [Exit.jump]
                      go_ret
                      exact ⟨congrArg (fun z => Ending.returned (.bool z)) HE.out.symm, G1.out⟩
                  · have q1z : ¬ (65 : Int) ≤ (R : Int) := by omega
                    clear hl
                    go_wp2_with fail
                    simp only [Exit.jump]
                    go_ret
                    exact ⟨congrArg (fun z => Ending.returned (.bool z)) HE.out.symm, G1.out⟩
              · have haz : ¬ (R2 : Int) < 128 := by omega
                have cF := Lib.hid (simpleFold_any (R : Int) W1 (HT.out.grown G1.out))
                go_wp2_with fail
                refine cF.out.mono ?_
                rintro e w' ⟨rfl, q0, rfl⟩
                have hlt' : (R : Int) < (R2 : Int) := by omega
                go_wp2_with fail
                go_loopg [13] 4 (fun g v13 wx => ∃ j q : Nat, j + g = 4 ∧ v13 = .int .i32 (itF (j + 1) (R : Int)) ∧ Hid (∀ i, 1 ≤ i → i ≤ j → itF i (R : Int) ≠ (R : Int) ∧ itF i (R : Int) < (R2 : Int)) ∧ wx = W1.drewN q)
                case atStart => exact ⟨0, q0, rfl, rfl, fun i h1 h2 => absurd h2 (by omega), rfl⟩
                case round =>
                  obtain ⟨j, q, hj, rfl, HB, rfl⟩ := hrel
                  by_cases hx1 : itF (j + 1) (R : Int) = (R : Int)
                  · have HX := Lib.hid (orbit_exit hlt' j HB.out (.inl hx1))
                    have hne : (R : Int) ≠ (R2 : Int) := by omega
                    rw [hx1] at HX ⊢
                    have hx1b : ((R : Int) != (R : Int)) = false := by simp
                    have hbb : ((R : Int) == (R2 : Int)) = false := by simpa using hne
                    have hno : kinB (R : Int) (R2 : Int) = false := by rw [← HX.out]; exact decide_eq_false hne
                    have HE := Lib.hid (show ANS = false by rw [← HS.out, show kinB (R : Int) (R2 : Int) = kinB (R : Int) (R2 : Int) from rfl, hno, Bool.false_and])
                    clear HX hno hx1 HB
                    go_wp2_with fail
                    simp only [Exit.jump]
                    go_ret
                    exact ⟨congrArg (fun z => Ending.returned (.bool z)) HE.out.symm, gdrewN G1.out _⟩
                  · have hx1b : (itF (j + 1) (R : Int) != (R : Int)) = true := by simpa using hx1
                    by_cases hx2 : itF (j + 1) (R : Int) < (R2 : Int)
                    · have HB' := Lib.hid (show ∀ i, 1 ≤ i → i ≤ j + 1 → itF i (R : Int) ≠ (R : Int) ∧ itF i (R : Int) < (R2 : Int) from fun i h1 h2 => by
                        by_cases e : i = j + 1
                        · rw [e]; exact ⟨hx1, hx2⟩
                        · exact HB.out i h1 (by omega))
                      obtain ⟨g3, rfl⟩ : ∃ g3, gk = g3 + 1 := by
                        refine ⟨gk - 1, ?_⟩
                        rcases Nat.eq_zero_or_pos gk with h0 | h0
                        · exfalso
                          obtain ⟨p, p1, p2, hp⟩ := period (R : Int)
                          exact (HB'.out p p1 (by omega)).1 hp
                        · omega
                      have cF2 := Lib.hid (simpleFold_any (itF (j + 1) (R : Int)) (W1.drewN q) ((HT.out.grown G1.out).drewN q))
                      have hnext : foldU (itF (j + 1) (R : Int)) = itF (j + 1 + 1) (R : Int) := rfl
                      rw [hnext] at cF2
                      generalize hy : itF (j + 1 + 1) (R : Int) = yv at *
                      have HY := Lib.hid hy
                      generalize itF (j + 1) (R : Int) = xv at *
                      clear hy hnext hx1 HB
                      go_wp2_with fail
                      refine cF2.out.mono ?_
                      rintro e w' ⟨rfl, q2, rfl⟩
                      go_wp2_with fail
                      go_roundg g3
                      case measure => omega
                      case rel => exact ⟨j + 1, _, by omega, by rw [HY.out], HB'.out, rfl⟩
                    · have HX := Lib.hid (orbit_exit hlt' j HB.out (.inr (by omega)))
                      generalize itF (j + 1) (R : Int) = xv at *
                      by_cases hx3 : xv = (R2 : Int)
                      · have hx3b : (xv == (R2 : Int)) = true := by simpa using hx3
                        have HS' := Lib.hid (show eqF (s1.data.toList.drop (pos + K)) t2.data.toList = ANS by rw [← HS.out, show kinB (R : Int) (R2 : Int) = kinB (R : Int) (R2 : Int) from rfl, ← HX.out, decide_eq_true hx3, Bool.true_and])
                        clear hx1 hx3 HB HX HS
                        go_wp2_with fail
                        go_roundg g'
                        case measure => omega
                        case rel => exact ⟨pos + K, t2, rfl, IT1.out, gdrewN G1.out _, HS'.out, by omega, hwn, hz3⟩
                      · have hx3b : (xv == (R2 : Int)) = false := by simpa using hx3
                        have HE := Lib.hid (show ANS = false by rw [← HS.out, show kinB (R : Int) (R2 : Int) = kinB (R : Int) (R2 : Int) from rfl, ← HX.out, decide_eq_false hx3, Bool.false_and])
                        clear hx1 hx3 HB HX HS
                        go_wp2_with fail
                        simp only [Exit.jump]
                        go_ret
                        exact ⟨congrArg (fun z => Ending.returned (.bool z)) HE.out.symm, gdrewN G1.out _⟩
      · have hnx : ∀ ty, (Instr.next (.pointer (some ⟨w.heap.size, 0, none⟩)) true ty).run Tryd.prog wr = _ := fun ty => Lib.run_next_end_at wr w.heap.size s1 pos ty hit hlt
        have hnil : s1.data.toList.drop pos = [] := List.drop_eq_nil_of_le (by rw [← Lib.size_eq]; omega)
        have HE := Lib.hid (show ANS = decide (tt.size = 0) by
          rw [← HP.out, hnil, eqF_end _ _ (.inl rfl), List.length_nil, ← Lib.size_eq]
          exact decide_eq_decide.2 (by omega))
        clear hnil hit
        by_cases ht0 : tt.size = 0
        · have hb : ((tt.size : Int) == 0) = true := by simpa using ht0
          have HE2 := Lib.hid (HE.out.trans (decide_eq_true ht0))
          clear HE ht0
          go_wp2_with fail
          simp only [Exit.jump]
          go_ret
          exact ⟨congrArg (fun z => Ending.returned (.bool z)) HE2.out.symm, GW.out⟩
        · have hb : ((tt.size : Int) == 0) = false := by rw [beq_eq_false_iff_ne]; omega
          have HE2 := Lib.hid (HE.out.trans (decide_eq_false ht0))
          clear HE ht0
          go_wp2_with fail
          simp only [Exit.jump]
          go_ret
          exact ⟨congrArg (fun z => Ending.returned (.bool z)) HE2.out.symm, GW.out⟩
end Go.Proofs.YtgljpgnmlpglnaaDoor
