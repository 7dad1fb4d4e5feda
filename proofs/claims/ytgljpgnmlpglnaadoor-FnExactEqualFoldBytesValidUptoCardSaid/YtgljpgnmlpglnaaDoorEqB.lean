/- bytes.EqualFold tells whether the characters of two texts are equivalent, one by one; the thin package's EqualFoldBytes. Written by gen_eqb.py. -/
import Derived.Test.YtgljpgnmlpglnaaDoorEqS
import Derived.Test.YtgljpgnmlpglnaaDoorPick
import Derived.Test.YtgljpgnmlpglnaaDoorKinAll
import Derived.Shelf.Spec.DecodeRune
namespace Go.Proofs.YtgljpgnmlpglnaaDoor
open Go.Shelf Go.RowKit Go.Lib Go.Ftx

set_option maxRecDepth 100000 in
/-- what is left of a slice of bytes behind its first K -/
theorem tail_slice {w : World} {a : Option Addr} {n c : Nat} {l : List UInt8} (h : BytesL w (.slice a n c) l) (K : Nat) (hK : K ≤ l.length) :
    ∃ a' c', (∀ W : World, (Instr.slice 22 (.slice a n c) (some (.int .i64 (K : Int))) none none).run Tryd.prog W = .ok (.slice a' (l.drop K).length c') W) ∧ BytesL w (.slice a' (l.drop K).length c') (l.drop K) := by
  have hn : n = l.length := by
    rcases h with ⟨a', c', e, rfl⟩ | ⟨b, o, c', e, _⟩ <;> (simp only [Value.slice.injEq] at e; simp [e])
  have hrun : ∀ W : World, (Instr.slice 22 (.slice a n c) (some (.int .i64 (K : Int))) none none).run Tryd.prog W = .ok (sliced a K n c 1) W := fun W => by
    rw [run_slice_l (w := W) (P := Tryd.prog) 22 a n c Tryd.underlying22 .i64 (K : Int) (by omega) (by omega)]
    have hs : (sizeOf (Tryd.prog.elem 22)).run Tryd.prog W = .ok 1 W := by rfl
    rw [hs]
    simp only [Result.andThen, Int.toNat_natCast]
  subst hn
  rw [List.length_drop]
  refine ⟨if c = K then a else a.map (·.add (K * 1)), c - K, fun W => by rw [hrun]; rfl, ?_⟩
  rcases h with ⟨a', c', e, rfl⟩ | ⟨b, o, c', e, hlc, hc63, hc⟩
  · obtain rfl : K = 0 := by simpa using hK
    exact .inl ⟨if c = 0 then a else a.map (·.add (0 * 1)), c - 0, rfl, rfl⟩
  · simp only [Value.slice.injEq] at e
    obtain ⟨rfl, -, rfl⟩ := e
    by_cases hck : c = K
    · have : l.length - K = 0 := by omega
      refine .inl ⟨_, _, by rw [this], List.drop_eq_nil_of_le (by omega)⟩
    · refine .inr ⟨b, o + K, c - K, by rw [if_neg hck, List.length_drop]; simp [Addr.add], by rw [List.length_drop]; omega, by omega, fun i hi => ?_⟩
      rw [List.length_drop] at hi
      have := hc (K + i) (by omega)
      rw [show o + K + i = o + (K + i) by omega, this]
      simp [List.getD, List.getElem?_drop]
/-- a slice that holds something has a place -/
theorem bytes_place {w : World} {a : Option Addr} {n c : Nat} {l : List UInt8} (h : BytesL w (.slice a n c) l) (hl : l ≠ []) :
    ∃ b o, a = some ⟨b, o, none⟩ ∧ n = l.length ∧ l.length ≤ c ∧ c ≤ 9223372036854775807 ∧ ∀ i, i < l.length → w.cell? ⟨b, o + i, none⟩ = some (.int .u8 ((l.getD i 0).toNat : Int)) := by
  rcases h with ⟨_, _, _, rfl⟩ | ⟨b, o, c', e, hlc, hc63, hc⟩
  · exact absurd rfl hl
  · simp only [Value.slice.injEq] at e
    obtain ⟨rfl, rfl, rfl⟩ := e
    exact ⟨b, o, rfl, rfl, hlc, hc63, hc⟩
theorem decodeB_any (w : World) (a : Option Addr) (n c : Nat) (l : List UInt8) (h : BytesL w (.slice a n c) l) (hl : l ≠ []) (hU : Utf8T w) :
    Calls Tryd.prog 38 #[.slice a n c] w fun e w' => e = .returned (.tuple #[.int .i32 ((decodeL l).1 : Nat), .int .i64 ((decodeL l).2 : Nat)]) ∧ w.grownBy w' none := by
  obtain ⟨b, o, rfl, rfl, -, -, hc⟩ := bytes_place h hl
  have hz : (⟨l.toArray⟩ : ByteArray).size = l.length := by show l.toArray.size = _; simp
  have cD := Any7.utf8_DecodeRune Tryd.laysDecodeRune ⟨l.toArray⟩ b o c w hU (fun j hj => by
    rw [hz] at hj
    rw [hc j hj]
    have : (⟨l.toArray⟩ : ByteArray).get! j = l.getD j 0 := by
      show l.toArray[j]! = _
      simp [List.getD, hj]
    rw [this])
  rw [hz] at cD
  have hd : Lib.decodeGo ⟨l.toArray⟩ = decodeL l := by
    unfold Lib.decodeGo
    rw [if_neg (by rw [hz]; have := List.length_pos_iff.2 hl; omega)]
    have := Lib.decodeL_drop ⟨l.toArray⟩ 0
    rw [List.drop_zero] at this
    exact this.symm
  rw [hd] at cD
  exact cD.mono fun e w' ⟨he, hb⟩ => ⟨he, belowg hb⟩
theorem lenB {l : List UInt8} (h : l ≠ []) : ((l.length : Int) != 0) = true := by
  have := List.length_pos_iff.2 h
  simp
  omega

set_option maxHeartbeats 4000000 in
set_option maxRecDepth 1000000 in
theorem equalFoldB_full (l m : List UInt8) (b1 o1 c1 b2 o2 c2 : Nat) (w : World) (hl : l.length ≤ 4611686018427387904) (hm : m.length ≤ 4611686018427387904)
    (hB1 : BytesL w (.slice (some ⟨b1, o1, none⟩) l.length c1) l) (hB2 : BytesL w (.slice (some ⟨b2, o2, none⟩) m.length c2) m) (hT : FoldTabs w) (hU : Utf8T w) :
    Calls Tryd.prog 34 #[.slice (some ⟨b1, o1, none⟩) l.length c1, .slice (some ⟨b2, o2, none⟩) m.length c2] w (BoolPost w (eqF l m)) := by
  obtain ⟨M, hM⟩ : ∃ M : Nat, min (l.length : Int) (m.length : Int) = (M : Int) := ⟨min l.length m.length, by omega⟩
  have hMs : M ≤ l.length := by omega
  have hMt : M ≤ m.length := by omega
  have hMe : M = l.length ∨ M = m.length := by omega
  have HME := Lib.hid hMe
  have HT := Lib.hid hT
  have HU := Lib.hid hU
  have HB1 := Lib.hid hB1
  have HB2 := Lib.hid hB2
  generalize hANS : eqF l m = ANS
  have HA := Lib.hid hANS
  clear hMe hT hU hANS hB1 hB2
  go_enter Tryd.func34, Tryd.ntmps34
  go_wp2
  refine wp_scope_jumps 0 (fun a' w' => w = w' ∧ ∃ (k : Nat) (u4 u7 u8 u18 u19 u20 u21 u22 u23 u24 u25 u26 u27 u28 u29 u30 u31 u32 u33 u34 u35 u36 u37 u38 u39 u40 u41 u42 u43 u44 u45 u46 u47 u48 u49 u50 u51 u52 u53 u54 u55 : Value), a' = { tmps := #[.slice (some ⟨b1, o1, none⟩) l.length c1, .slice (some ⟨b2, o2, none⟩) m.length c2, undef, undef, u4, .int .i64 (k : Int), .int .i64 (M : Int), u7, u8, undef, undef, undef, undef, .slice (some ⟨b1, o1, none⟩) l.length c1, .int .i64 (l.length : Int), .slice (some ⟨b2, o2, none⟩) m.length c2, .int .i64 (m.length : Int), .int .i64 (M : Int), u18, u19, u20, u21, u22, u23, u24, u25, u26, u27, u28, u29, u30, u31, u32, u33, u34, u35, u36, u37, u38, u39, u40, u41, u42, u43, u44, u45, u46, u47, u48, u49, u50, u51, u52, u53, u54, u55, undef, undef, undef, undef, undef, undef, undef, undef, undef, undef, undef, undef, undef, undef, undef, undef, undef, undef, undef, undef, undef, undef, undef, undef, undef, undef, undef, undef, undef, undef, undef, undef, undef, undef, undef, undef, undef, undef, undef, undef, undef, undef, undef, undef, undef, undef, undef, undef, undef, undef, undef, undef, undef, undef, undef, undef, undef, undef, undef, undef, undef, undef, undef, undef, undef, undef, undef, undef, undef, undef, undef, undef, undef, undef, undef, undef, undef, undef], defers := [] } ∧ k < M ∧ Hid (eqF (l.drop k) (m.drop k) = ANS)) (fun _ _ => 0) rfl ?_ ?_
  · go_wp2
    go_loopg [5] M (fun g s5 wx => w = wx ∧ ∃ i : Nat, i + g = M ∧ s5 = .int .i64 i ∧ Hid (eqF (l.drop i) (m.drop i) = ANS))
    case atStart => exact ⟨rfl, 0, by omega, rfl, HA.out⟩
    case round =>
      obtain ⟨rfl, i, hig, rfl, HI⟩ := hrel
      clear HA hM
      cases gk with
      | zero =>
        have hiM : ¬ ((i : Int) < (M : Int)) := by omega
        obtain rfl : i = M := by omega
        have hE : ANS = decide (l.length = m.length) := by
          rw [← HI.out, eqF_end _ _ (by
            rcases HME.out with h | h
            · exact Or.inl (List.drop_eq_nil_of_le (by omega))
            · exact Or.inr (List.drop_eq_nil_of_le (by omega))), List.length_drop, List.length_drop]
          exact decide_eq_decide.2 (by omega)
        have HE := Lib.hid hE
        clear hE
        by_cases hst : l.length = m.length
        · have hb : ((l.length : Int) == (m.length : Int)) = true := beq_iff_eq.2 (by omega)
          have hE2 := Lib.hid (HE.out.trans (decide_eq_true hst))
          clear HE hst
          go_wp2
          simp only [Exit.jump]
          go_ret
          exact ⟨congrArg (fun z => Ending.returned (.bool z)) hE2.out.symm, grefl w none⟩
        · have hb : ((l.length : Int) == (m.length : Int)) = false := beq_eq_false_iff_ne.2 (by omega)
          have hE2 := Lib.hid (HE.out.trans (decide_eq_false hst))
          clear HE hst
          go_wp2
          simp only [Exit.jump]
          go_ret
          exact ⟨congrArg (fun z => Ending.returned (.bool z)) hE2.out.symm, grefl w none⟩
      | succ g =>
        have hiM : (i : Int) < (M : Int) := by omega
        have hisz : (i : Int) < (l.length : Int) := by omega
        have hitz : (i : Int) < (m.length : Int) := by omega
        have hln : l ≠ [] := fun e => by rw [e, List.length_nil] at hisz; omega
        have hmn : m ≠ [] := fun e => by rw [e, List.length_nil] at hitz; omega
        obtain ⟨_, _, e1, _, _, _, hc1⟩ := bytes_place HB1.out hln
        obtain ⟨_, _, e2, _, _, _, hc2⟩ := bytes_place HB2.out hmn
        cases e1
        cases e2
        have hcx := hc1 i (by omega)
        have hcy := hc2 i (by omega)
        obtain ⟨x, hx⟩ : ∃ x : UInt8, l.getD i 0 = x := ⟨_, rfl⟩
        obtain ⟨y, hy⟩ : ∃ y : UInt8, m.getD i 0 = y := ⟨_, rfl⟩
        rw [hx] at hcx
        rw [hy] at hcy
        have hxl : l[i]? = some x := by rw [← hx]; simp [List.getD, show i < l.length by omega]
        have hyl : m[i]? = some y := by rw [← hy]; simp [List.getD, show i < m.length by omega]
        have Hx := Lib.hid (show l[i]? = some x ∧ m[i]? = some y from ⟨hxl, hyl⟩)
        have hx256 := UInt8.toNat_lt x
        have hy256 := UInt8.toNat_lt y
        have hor : bits .or .u8 (x.toNat : Int) (y.toNat : Int) = ((x.toNat ||| y.toNat : Nat) : Int) := u8_or_nat _ _ (by omega) (by omega)
        clear hxl hyl hc1 hc2 hx hy hln hmn
        by_cases hasc : x.toNat < 128 ∧ y.toNat < 128
        · obtain ⟨hx128, hy128⟩ := hasc
          have hor128 : ¬ ((128 : Int) ≤ ((x.toNat ||| y.toNat : Nat) : Int)) := by have := Nat.or_lt_two_pow (n := 7) hx128 hy128; omega
          go_wp2
          all_goals (try simp only [beq_iff_eq, beq_eq_false_iff_ne, ne_eq] at *)
          all_goals first
            | (go_roundg g
               case measure => omega
               case rel => exact ⟨rfl, i + 1, by omega, by first | rfl | simp, Lib.hid (eqF_go Hx.out hx128 hy128 HI.out (by omega))⟩)
            | (simp only [Exit.jump]
               go_ret
               exact ⟨congrArg (fun z => Ending.returned (.bool z)) (eqF_no Hx.out hx128 hy128 HI.out (by omega)).symm, grefl w none⟩)
        · have hor128 : (128 : Int) ≤ ((x.toNat ||| y.toNat : Nat) : Int) := by
            have h1 : x.toNat ≤ x.toNat ||| y.toNat := Nat.left_le_or
            have h2 : y.toNat ≤ x.toNat ||| y.toNat := Nat.right_le_or
            omega
          go_wp2
          go_step3
          refine ⟨rfl, rfl, i, _, _, _, _, _, _, _, _, _, _, _, _, _, _, _, _, _, _, _, _, _, _, _, _, _, _, _, _, _, _, _, _, _, _, _, _, _, _, _, _, _, rfl, by omega, HI⟩
  · rintro a' w' ⟨rfl, k, u4, u7, u8, u18, u19, u20, u21, u22, u23, u24, u25, u26, u27, u28, u29, u30, u31, u32, u33, u34, u35, u36, u37, u38, u39, u40, u41, u42, u43, u44, u45, u46, u47, u48, u49, u50, u51, u52, u53, u54, u55, rfl, hkM, HI⟩
    clear HA hM HME
    obtain ⟨a1, q1, hsl1, hD1⟩ := tail_slice HB1.out k (by omega)
    obtain ⟨a2, q2, hsl2, hD2⟩ := tail_slice HB2.out k (by omega)
    have hk0 : (0 : Int) ≤ (k : Int) := by omega
    have HD1 := Lib.hid hD1
    have HD2 := Lib.hid hD2
    have HI1 := HI
    have hz1 : (l.drop k).length ≤ 4611686018427387904 := by rw [List.length_drop]; omega
    have hz2 : (m.drop k).length ≤ 4611686018427387904 := by rw [List.length_drop]; omega
    clear hD1 hD2 HI
    generalize l.drop k = L1 at *
    generalize m.drop k = L2 at *
    go_wp2_with fail
    go_loopg [0, 1] L1.length (fun g v0 v1 wx => ∃ (a1 : Option Addr) (q1 : Nat) (l1 : List UInt8) (a2 : Option Addr) (q2 : Nat) (l2 : List UInt8), v0 = .slice a1 l1.length q1 ∧ v1 = .slice a2 l2.length q2 ∧ Hid (BytesL w (.slice a1 l1.length q1) l1) ∧ Hid (BytesL w (.slice a2 l2.length q2) l2) ∧ Hid (w.grownBy wx none) ∧ Hid (eqF l1 l2 = ANS) ∧
      l1.length ≤ g ∧ l1.length ≤ 4611686018427387904 ∧ l2.length ≤ 4611686018427387904)
    case atStart => exact ⟨_, _, _, _, _, _, rfl, rfl, HD1.out, HD2.out, grefl w none, HI1.out, Nat.le_refl _, hz1, hz2⟩
    case round =>
      clear hsl1 hsl2 HD1 HD2 HI1 hz1 hz2
      obtain ⟨a1, q1, l1, a2, q2, l2, rfl, rfl, B1, B2, GW, HP, hfu, hz1, hz2⟩ := hrel
      by_cases hn1 : l1 = []
      · subst hn1
        have hb0 : ((([] : List UInt8).length : Int) != 0) = false := rfl
        rw [show (([] : List UInt8).length) = 0 from rfl] at *
        have HE := Lib.hid (show ANS = decide (l2.length = 0) by
          rw [← HP.out, eqF_end _ _ (.inl rfl), List.length_nil]
          exact decide_eq_decide.2 (by omega))
        by_cases ht0 : l2.length = 0
        · have hb : ((0 : Int) == (l2.length : Int)) = true := by rw [ht0]; rfl
          have HE2 := Lib.hid (HE.out.trans (decide_eq_true ht0))
          clear HE ht0 B1 B2
          go_wp2_with fail
          simp only [Exit.jump]
          go_ret
          exact ⟨congrArg (fun z => Ending.returned (.bool z)) HE2.out.symm, GW.out⟩
        · have hb : ((0 : Int) == (l2.length : Int)) = false := by rw [beq_eq_false_iff_ne]; omega
          have HE2 := Lib.hid (HE.out.trans (decide_eq_false ht0))
          clear HE ht0 B1 B2
          go_wp2_with fail
          simp only [Exit.jump]
          go_ret
          exact ⟨congrArg (fun z => Ending.returned (.bool z)) HE2.out.symm, GW.out⟩
      · by_cases hn2 : l2 = []
        · subst hn2
          have hb1 := lenB hn1
          have HE2 := Lib.hid (show ANS = false by
            rw [← HP.out, eqF_end _ _ (.inr rfl), List.length_nil]
            exact decide_eq_false (fun e => hn1 (List.length_eq_zero_iff.1 e)))
          have hb : ((l1.length : Int) == 0) = false := by have := List.length_pos_iff.2 hn1; rw [beq_eq_false_iff_ne]; omega
          rw [show (([] : List UInt8).length) = 0 from rfl] at *
          clear B1 B2 hn1
          go_wp2_with fail
          simp only [Exit.jump]
          go_ret
          exact ⟨congrArg (fun z => Ending.returned (.bool z)) HE2.out.symm, GW.out⟩
        · have hb1 := lenB hn1
          have hb2 := lenB hn2
          have hp1 := List.length_pos_iff.2 hn1
          obtain ⟨g', rfl⟩ : ∃ g', gk = g' + 1 := ⟨gk - 1, by omega⟩
          have cD1 := Lib.hid (decodeB_any wr a1 l1.length q1 l1 (B1.out.kept GW.out) hn1 (HU.out.grown GW.out))
          have cD2 := Lib.hid fun (W : World) (hg : w.grownBy W none) => decodeB_any W a2 l2.length q2 l2 (B2.out.kept hg) hn2 (HU.out.grown hg)
          have hw1 := decodeL_pos _ hn1
          have hw2 := decodeL_pos _ hn2
          have hv1 := Lib.decodeL_le _ hn1
          have hv2 := Lib.decodeL_le _ hn2
          have hrl : (decodeL l1).1 ≤ 1114111 := Lib.rune_le ⟨l1.toArray⟩ 0
          have hr2 : (decodeL l2).1 ≤ 1114111 := Lib.rune_le ⟨l2.toArray⟩ 0
          have HSP := Lib.hid (eqF_step _ _ hn1 hn2)
          obtain ⟨R, hR⟩ : ∃ R, (decodeL l1).1 = R := ⟨_, rfl⟩
          obtain ⟨K, hK⟩ : ∃ K, (decodeL l1).2 = K := ⟨_, rfl⟩
          obtain ⟨R2, hR2⟩ : ∃ R2, (decodeL l2).1 = R2 := ⟨_, rfl⟩
          obtain ⟨K2, hK2⟩ : ∃ K2, (decodeL l2).2 = K2 := ⟨_, rfl⟩
          rw [hR, hK] at cD1
          rw [hR2, hK2] at cD2
          rw [hR, hK, hR2, hK2] at HSP
          rw [hR] at hrl
          rw [hR2] at hr2
          rw [hK] at hw1 hv1
          rw [hK2] at hw2 hv2
          obtain ⟨a1', q1', hsl1, hD1⟩ := tail_slice B1.out K hv1
          obtain ⟨a2', q2', hsl2, hD2⟩ := tail_slice B2.out K2 hv2
          have B1' := Lib.hid hD1
          have B2' := Lib.hid hD2
          have hm1 : (l1.drop K).length + 1 ≤ l1.length := by rw [List.length_drop]; omega
          have hm2 : (l2.drop K2).length ≤ l2.length := by rw [List.length_drop]; omega
          have HS := Lib.hid (show (kinB (R : Int) (R2 : Int) && eqF (l1.drop K) (l2.drop K2)) = ANS by rw [← HP.out, HSP.out])
          have hk0 : (0 : Int) ≤ (K : Int) := by omega
          have hk2a : (0 : Int) ≤ (K2 : Int) := by omega
          have hkz : (K : Int) ≤ (l1.length : Int) := by omega
          have hkz2 : (K2 : Int) ≤ (l2.length : Int) := by omega
          clear hR hK hR2 hK2 HSP hD1 hD2 B1 B2 HP hn1 hn2
          generalize l1.drop K = m1 at *
          generalize l2.drop K2 = m2 at *
          go_wp2_with fail
          refine cD1.out.mono ?_
          rintro e W0 ⟨rfl, hg0⟩
          have G0 := Lib.hid (gtrans GW.out hg0)
          clear hg0 cD1 GW
          go_wp2_with fail
          refine (cD2.out _ G0.out).mono ?_
          rintro e W1 ⟨rfl, hg1⟩
          have G1 := Lib.hid (gtrans G0.out hg1)
          clear hg1 cD2 G0
          by_cases he : R2 = R
          · subst he
            have hbb : ((R2 : Int) == (R2 : Int)) = true := by simp
            have HS' := Lib.hid (show eqF m1 m2 = ANS by rw [← HS.out, kinB_refl, Bool.true_and])
            clear HS
            go_wp2_with fail
            go_roundg g'
            case measure => omega
            case rel => exact ⟨a1', q1', m1, a2', q2', m2, rfl, rfl, B1'.out, B2'.out, G1.out, HS'.out, by omega, by omega, by omega⟩
          · have hbb : ((R2 : Int) == (R : Int)) = false := by rw [beq_eq_false_iff_ne]; omega
            by_cases hsw : R2 < R
            · have hswz : (R2 : Int) < (R : Int) := by omega
              have hsy := Lib.hid (kinB_symm (R : Int) (R2 : Int))
              by_cases ha : R < 128
              · have haz : (R : Int) < 128 := by omega
                have hkl := kinB_letters R R2 ha (by omega)
                have HK := Lib.hid hkl
                clear hkl
                by_cases hl : 65 ≤ R2 ∧ R2 ≤ 90 ∧ R = R2 + 32
                · obtain ⟨q1, q2, q3⟩ := hl
                  have HS' := Lib.hid (show eqF m1 m2 = ANS by rw [← HS.out, HK.out, decide_eq_true (by omega), Bool.true_and])
                  have q1z : (65 : Int) ≤ (R2 : Int) := by omega
                  have q2z : (R2 : Int) ≤ 90 := by omega
                  have q3z : ((R : Int) == (R2 : Int) + 97 - 65) = true := by rw [beq_iff_eq]; omega
                  clear HS HK q3
                  go_wp2_with fail
                  go_roundg g'
                  case measure => omega
                  case rel => exact ⟨a1', q1', m1, a2', q2', m2, rfl, rfl, B1'.out, B2'.out, G1.out, HS'.out, by omega, by omega, by omega⟩
                · have HE := Lib.hid (show ANS = false by rw [← HS.out, HK.out, decide_eq_false (by omega), Bool.false_and])
                  clear HS HK
                  by_cases q1 : 65 ≤ R2
                  · have q1z : (65 : Int) ≤ (R2 : Int) := by omega
                    by_cases q2 : R2 ≤ 90
                    · have q2z : (R2 : Int) ≤ 90 := by omega
                      have q3z : ((R : Int) == (R2 : Int) + 97 - 65) = false := by rw [beq_eq_false_iff_ne]; omega
                      clear hl
                      go_wp2_with fail
                      simp only [Exit.jump]
                      go_ret
                      exact ⟨congrArg (fun z => Ending.returned (.bool z)) HE.out.symm, G1.out⟩
                    · have q2z : ¬ (R2 : Int) ≤ 90 := by omega
                      clear hl
                      go_wp2_with fail
                      simp only [Exit.jump]
                      go_ret
                      exact ⟨congrArg (fun z => Ending.returned (.bool z)) HE.out.symm, G1.out⟩
                  · have q1z : ¬ (65 : Int) ≤ (R2 : Int) := by omega
                    clear hl
                    go_wp2_with fail
                    simp only [Exit.jump]
                    go_ret
                    exact ⟨congrArg (fun z => Ending.returned (.bool z)) HE.out.symm, G1.out⟩
              · have haz : ¬ (R : Int) < 128 := by omega
                have cF := Lib.hid (simpleFold_any (R2 : Int) W1 (HT.out.grown G1.out))
                go_wp2_with fail
                refine cF.out.mono ?_
                rintro e w' ⟨rfl, q0, rfl⟩
                have hlt' : (R2 : Int) < (R : Int) := by omega
                go_wp2_with fail
                go_loopg [12] 4 (fun g v13 wx => ∃ j q : Nat, j + g = 4 ∧ v13 = .int .i32 (itF (j + 1) (R2 : Int)) ∧ Hid (∀ i, 1 ≤ i → i ≤ j → itF i (R2 : Int) ≠ (R2 : Int) ∧ itF i (R2 : Int) < (R : Int)) ∧ wx = W1.drewN q)
                case atStart => exact ⟨0, q0, rfl, rfl, fun i h1 h2 => absurd h2 (by omega), rfl⟩
                case round =>
                  obtain ⟨j, q, hj, rfl, HB, rfl⟩ := hrel
                  by_cases hx1 : itF (j + 1) (R2 : Int) = (R2 : Int)
                  · have HX := Lib.hid (orbit_exit hlt' j HB.out (.inl hx1))
                    have hne : (R2 : Int) ≠ (R : Int) := by omega
                    rw [hx1] at HX ⊢
                    have hx1b : ((R2 : Int) != (R2 : Int)) = false := by simp
                    have hbb : ((R2 : Int) == (R : Int)) = false := by simpa using hne
                    have hno : kinB (R2 : Int) (R : Int) = false := by rw [← HX.out]; exact decide_eq_false hne
                    have HE := Lib.hid (show ANS = false by rw [← HS.out, hsy.out, hno, Bool.false_and])
                    clear HX hno hx1 HB
                    go_wp2_with fail
                    simp only [Exit.jump]
                    go_ret
                    exact ⟨congrArg (fun z => Ending.returned (.bool z)) HE.out.symm, gdrewN G1.out _⟩
                  · have hx1b : (itF (j + 1) (R2 : Int) != (R2 : Int)) = true := by simpa using hx1
                    by_cases hx2 : itF (j + 1) (R2 : Int) < (R : Int)
                    · have HB' := Lib.hid (show ∀ i, 1 ≤ i → i ≤ j + 1 → itF i (R2 : Int) ≠ (R2 : Int) ∧ itF i (R2 : Int) < (R : Int) from fun i h1 h2 => by
                        by_cases e : i = j + 1
                        · rw [e]; exact ⟨hx1, hx2⟩
                        · exact HB.out i h1 (by omega))
                      obtain ⟨g3, rfl⟩ : ∃ g3, gk = g3 + 1 := by
                        refine ⟨gk - 1, ?_⟩
                        rcases Nat.eq_zero_or_pos gk with h0 | h0
                        · exfalso
                          obtain ⟨p, p1, p2, hp⟩ := period (R2 : Int)
                          exact (HB'.out p p1 (by omega)).1 hp
                        · omega
                      have cF2 := Lib.hid (simpleFold_any (itF (j + 1) (R2 : Int)) (W1.drewN q) ((HT.out.grown G1.out).drewN q))
                      have hnext : foldU (itF (j + 1) (R2 : Int)) = itF (j + 1 + 1) (R2 : Int) := rfl
                      rw [hnext] at cF2
                      generalize hy : itF (j + 1 + 1) (R2 : Int) = yv at *
                      have HY := Lib.hid hy
                      generalize itF (j + 1) (R2 : Int) = xv at *
                      clear hy hnext hx1 HB
                      go_wp2_with fail
                      refine cF2.out.mono ?_
                      rintro e w' ⟨rfl, q2, rfl⟩
                      go_wp2_with fail
                      go_roundg g3
                      case measure => omega
                      case rel => exact ⟨j + 1, _, by omega, by rw [HY.out], HB'.out, rfl⟩
                    · have HX := Lib.hid (orbit_exit hlt' j HB.out (.inr (by omega)))
                      generalize itF (j + 1) (R2 : Int) = xv at *
                      by_cases hx3 : xv = (R : Int)
                      · have hx3b : (xv == (R : Int)) = true := by simpa using hx3
                        have HS' := Lib.hid (show eqF m1 m2 = ANS by rw [← HS.out, hsy.out, ← HX.out, decide_eq_true hx3, Bool.true_and])
                        clear hx1 hx3 HB HX HS
                        go_wp2_with fail
                        go_roundg g'
                        case measure => omega
                        case rel => exact ⟨a1', q1', m1, a2', q2', m2, rfl, rfl, B1'.out, B2'.out, gdrewN G1.out _, HS'.out, by omega, by omega, by omega⟩
                      · have hx3b : (xv == (R : Int)) = false := by simpa using hx3
                        have HE := Lib.hid (show ANS = false by rw [← HS.out, hsy.out, ← HX.out, decide_eq_false hx3, Bool.false_and])
                        clear hx1 hx3 HB HX HS
                        go_wp2_with fail
                        simp only [Exit.jump]
                        go_ret
                        exact ⟨congrArg (fun z => Ending.returned (.bool z)) HE.out.symm, gdrewN G1.out _⟩
            · have hswz : ¬ (R2 : Int) < (R : Int) := by omega
              by_cases ha : R2 < 128
              · have haz : (R2 : Int) < 128 := by omega
                have hkl := kinB_letters R R2 (by omega) ha
                have HK := Lib.hid hkl
                clear hkl
                by_cases hl : 65 ≤ R ∧ R ≤ 90 ∧ R2 = R + 32
                · obtain ⟨q1, q2, q3⟩ := hl
                  have HS' := Lib.hid (show eqF m1 m2 = ANS by rw [← HS.out, HK.out, decide_eq_true (by omega), Bool.true_and])
                  have q1z : (65 : Int) ≤ (R : Int) := by omega
                  have q2z : (R : Int) ≤ 90 := by omega
                  have q3z : ((R2 : Int) == (R : Int) + 97 - 65) = true := by rw [beq_iff_eq]; omega
                  clear HS HK q3
                  go_wp2_with fail
                  go_roundg g'
                  case measure => omega
                  case rel => exact ⟨a1', q1', m1, a2', q2', m2, rfl, rfl, B1'.out, B2'.out, G1.out, HS'.out, by omega, by omega, by omega⟩
                · have HE := Lib.hid (show ANS = false by rw [← HS.out, HK.out, decide_eq_false (by omega), Bool.false_and])
                  clear HS HK
                  by_cases q1 : 65 ≤ R
                  · have q1z : (65 : Int) ≤ (R : Int) := by omega
                    by_cases q2 : R ≤ 90
                    · have q2z : (R : Int) ≤ 90 := by omega
                      have q3z : ((R2 : Int) == (R : Int) + 97 - 65) = false := by rw [beq_eq_false_iff_ne]; omega
                      clear hl
                      go_wp2_with fail
                      simp only [Exit.jump]
                      go_ret
                      exact ⟨congrArg (fun z => Ending.returned (.bool z)) HE.out.symm, G1.out⟩
                    · have q2z : ¬ (R : Int) ≤ 90 := by omega
                      clear hl
                      go_wp2_with fail
                      simp only [Exit.jump]
                      go_ret
                      exact ⟨congrArg (fun z => Ending.returned (.bool z)) HE.out.symm, G1.out⟩
                  · have q1z : ¬ (65 : Int) ≤ (R : Int) := by omega
                    clear hl
                    go_wp2_with fail
                    simp only [Exit.jump]
                    go_ret
                    exact ⟨congrArg (fun z => Ending.returned (.bool z)) HE.out.symm, G1.out⟩
              · have haz : ¬ (R2 : Int) < 128 := by omega
                have cF := Lib.hid (simpleFold_any (R : Int) W1 (HT.out.grown G1.out))
                go_wp2_with fail
                refine cF.out.mono ?_
                rintro e w' ⟨rfl, q0, rfl⟩
                have hlt' : (R : Int) < (R2 : Int) := by omega
                go_wp2_with fail
                go_loopg [12] 4 (fun g v13 wx => ∃ j q : Nat, j + g = 4 ∧ v13 = .int .i32 (itF (j + 1) (R : Int)) ∧ Hid (∀ i, 1 ≤ i → i ≤ j → itF i (R : Int) ≠ (R : Int) ∧ itF i (R : Int) < (R2 : Int)) ∧ wx = W1.drewN q)
                case atStart => exact ⟨0, q0, rfl, rfl, fun i h1 h2 => absurd h2 (by omega), rfl⟩
                case round =>
                  obtain ⟨j, q, hj, rfl, HB, rfl⟩ := hrel
                  by_cases hx1 : itF (j + 1) (R : Int) = (R : Int)
                  · have HX := Lib.hid (orbit_exit hlt' j HB.out (.inl hx1))
                    have hne : (R : Int) ≠ (R2 : Int) := by omega
                    rw [hx1] at HX ⊢
                    have hx1b : ((R : Int) != (R : Int)) = false := by simp
                    have hbb : ((R : Int) == (R2 : Int)) = false := by simpa using hne
                    have hno : kinB (R : Int) (R2 : Int) = false := by rw [← HX.out]; exact decide_eq_false hne
                    have HE := Lib.hid (show ANS = false by rw [← HS.out, show kinB (R : Int) (R2 : Int) = kinB (R : Int) (R2 : Int) from rfl, hno, Bool.false_and])
                    clear HX hno hx1 HB
                    go_wp2_with fail
                    simp only [Exit.jump]
                    go_ret
                    exact ⟨congrArg (fun z => Ending.returned (.bool z)) HE.out.symm, gdrewN G1.out _⟩
                  · have hx1b : (itF (j + 1) (R : Int) != (R : Int)) = true := by simpa using hx1
                    by_cases hx2 : itF (j + 1) (R : Int) < (R2 : Int)
                    · have HB' := Lib.hid (show ∀ i, 1 ≤ i → i ≤ j + 1 → itF i (R : Int) ≠ (R : Int) ∧ itF i (R : Int) < (R2 : Int) from fun i h1 h2 => by
                        by_cases e : i = j + 1
                        · rw [e]; exact ⟨hx1, hx2⟩
                        · exact HB.out i h1 (by omega))
                      obtain ⟨g3, rfl⟩ : ∃ g3, gk = g3 + 1 := by
                        refine ⟨gk - 1, ?_⟩
                        rcases Nat.eq_zero_or_pos gk with h0 | h0
                        · exfalso
                          obtain ⟨p, p1, p2, hp⟩ := period (R : Int)
                          exact (HB'.out p p1 (by omega)).1 hp
                        · omega
                      have cF2 := Lib.hid (simpleFold_any (itF (j + 1) (R : Int)) (W1.drewN q) ((HT.out.grown G1.out).drewN q))
                      have hnext : foldU (itF (j + 1) (R : Int)) = itF (j + 1 + 1) (R : Int) := rfl
                      rw [hnext] at cF2
                      generalize hy : itF (j + 1 + 1) (R : Int) = yv at *
                      have HY := Lib.hid hy
                      generalize itF (j + 1) (R : Int) = xv at *
                      clear hy hnext hx1 HB
                      go_wp2_with fail
                      refine cF2.out.mono ?_
                      rintro e w' ⟨rfl, q2, rfl⟩
                      go_wp2_with fail
                      go_roundg g3
                      case measure => omega
                      case rel => exact ⟨j + 1, _, by omega, by rw [HY.out], HB'.out, rfl⟩
                    · have HX := Lib.hid (orbit_exit hlt' j HB.out (.inr (by omega)))
                      generalize itF (j + 1) (R : Int) = xv at *
                      by_cases hx3 : xv = (R2 : Int)
                      · have hx3b : (xv == (R2 : Int)) = true := by simpa using hx3
                        have HS' := Lib.hid (show eqF m1 m2 = ANS by rw [← HS.out, show kinB (R : Int) (R2 : Int) = kinB (R : Int) (R2 : Int) from rfl, ← HX.out, decide_eq_true hx3, Bool.true_and])
                        clear hx1 hx3 HB HX HS
                        go_wp2_with fail
                        go_roundg g'
                        case measure => omega
                        case rel => exact ⟨a1', q1', m1, a2', q2', m2, rfl, rfl, B1'.out, B2'.out, gdrewN G1.out _, HS'.out, by omega, by omega, by omega⟩
                      · have hx3b : (xv == (R2 : Int)) = false := by simpa using hx3
                        have HE := Lib.hid (show ANS = false by rw [← HS.out, show kinB (R : Int) (R2 : Int) = kinB (R : Int) (R2 : Int) from rfl, ← HX.out, decide_eq_false hx3, Bool.false_and])
                        clear hx1 hx3 HB HX HS
                        go_wp2_with fail
                        simp only [Exit.jump]
                        go_ret
                        exact ⟨congrArg (fun z => Ending.returned (.bool z)) HE.out.symm, gdrewN G1.out _⟩

theorem equalFoldB_any (l m : List UInt8) (v u : Value) (w : World) (hl : l.length ≤ 4611686018427387904) (hm : m.length ≤ 4611686018427387904) (hB1 : BytesL w v l) (hB2 : BytesL w u m) (hT : FoldTabs w) (hU : Utf8T w) :
    Calls Tryd.prog 34 #[v, u] w (BoolPost w (eqF l m)) := by
  have short : ∀ (a1 a2 : Option Addr) (c1 c2 : Nat), (l = [] ∨ m = []) → Calls Tryd.prog 34 #[.slice a1 l.length c1, .slice a2 m.length c2] w (BoolPost w (eqF l m)) := by
    intro a1 a2 c1 c2 he
    have hM : min (l.length : Int) (m.length : Int) = 0 := by rcases he with rfl | rfl <;> simp <;> omega
    have hE := eqF_end l m he
    clear he hB1 hB2 hT hU
    generalize l.length = n1 at *
    generalize m.length = n2 at *
    rw [hE]
    clear hE
    by_cases hst : n1 = n2
    · have hb : ((n1 : Int) == (n2 : Int)) = true := beq_iff_eq.2 (by omega)
      rw [decide_eq_true hst]
      clear hst
      go_enter Tryd.func34, Tryd.ntmps34
      go_wp2
      refine wp_scope_jumps 0 (fun a' w' => False) (fun _ _ => 0) rfl ?_ ?_
      · go_wp2
        go_loopg [5] 0 (fun g s5 wx => w = wx ∧ s5 = .int .i64 0)
        case atStart => exact ⟨rfl, rfl⟩
        case round =>
          obtain ⟨rfl, rfl⟩ := hrel
          go_wp2
          simp only [Exit.jump]
          go_ret
          exact ⟨rfl, grefl w none⟩
      · intro a' w' h; exact h.elim
    · have hb : ((n1 : Int) == (n2 : Int)) = false := beq_eq_false_iff_ne.2 (by omega)
      rw [decide_eq_false hst]
      clear hst
      go_enter Tryd.func34, Tryd.ntmps34
      go_wp2
      refine wp_scope_jumps 0 (fun a' w' => False) (fun _ _ => 0) rfl ?_ ?_
      · go_wp2
        go_loopg [5] 0 (fun g s5 wx => w = wx ∧ s5 = .int .i64 0)
        case atStart => exact ⟨rfl, rfl⟩
        case round =>
          obtain ⟨rfl, rfl⟩ := hrel
          go_wp2
          simp only [Exit.jump]
          go_ret
          exact ⟨rfl, grefl w none⟩
      · intro a' w' h; exact h.elim
  have h1 := hB1
  have h2 := hB2
  rcases h1 with ⟨a, c, rfl, rfl⟩ | ⟨b1, o1, c1, rfl, _⟩
  · rcases h2 with ⟨a2, c2, rfl, rfl⟩ | ⟨b2, o2, c2, rfl, _⟩
    · exact short _ _ _ _ (.inl rfl)
    · exact short _ _ _ _ (.inl rfl)
  · rcases h2 with ⟨a2, c2, rfl, rfl⟩ | ⟨b2, o2, c2, rfl, _⟩
    · exact short _ _ _ _ (.inr rfl)
    · exact equalFoldB_full l m b1 o1 c1 b2 o2 c2 w hl hm hB1 hB2 hT hU

theorem implEqB_any (l m : List UInt8) (v u : Value) (w : World) (hl : l.length ≤ 4611686018427387904) (hm : m.length ≤ 4611686018427387904) (hB1 : BytesL w v l) (hB2 : BytesL w u m) (hT : FoldTabs w) (hU : Utf8T w) :
    Calls Tryd.prog 22 #[v, u] w (BoolPost w (eqF l m)) := by
  have cE := Lib.hid (equalFoldB_any l m v u w hl hm hB1 hB2 hT hU)
  generalize eqF l m = ANS at *
  clear hT hU hB1 hB2 hl hm
  go_enter Tryd.func22, Tryd.ntmps22
  go_wp2_with fail
  refine cE.out.mono ?_
  rintro e w' ⟨rfl, hg⟩
  have HG := Lib.hid hg
  clear hg
  go_wp2_with fail
  go_ret
  exact ⟨rfl, HG.out⟩
end Go.Proofs.YtgljpgnmlpglnaaDoor
