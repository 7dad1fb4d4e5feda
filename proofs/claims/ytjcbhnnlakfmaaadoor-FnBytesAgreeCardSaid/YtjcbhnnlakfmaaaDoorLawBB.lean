/- The law FnBytesAgree: both packages turn texts alike. Written by gen_lawba.py. -/
import Derived.Test.YtjcbhnnlakfmaaaDoorBOut
import Derived.Test.YtjcbhnnlakfmaaaDoorDrawPair
import Derived.Test.YtjcbhnnlakfmaaaDoorReg
import Derived.Test.YtjcbhnnlakfmaaaDoorCaseP
import Derived.Test.YtjcbhnnlakfmaaaDoorLawCase2
namespace Go.Proofs.YtjcbhnnlakfmaaaDoor
open Go.Shelf Go.RowKit Go.Lib Go.Ftx
theorem some_bytes2 (w : World) (o : Obj) (fr : Nat × Nat) : BytesL ((w.alloc o).alloc (.cells #[.int .u8 115, .int .u8 111, .int .u8 109, .int .u8 101] 5 fr)) (.slice (some ⟨w.heap.size + 1, 0, none⟩) 4 4) #[115, 111, 109, 101].toList := by
  have h := some_bytes (w.alloc o) fr
  rw [asize] at h
  exact h

set_option maxHeartbeats 8000000 in
set_option maxRecDepth 100000 in
theorem bytesAgree_walk (w : World) (l : List UInt8) (bv : Value) (hb : BytesL w bv l) (hT : EqTabs w) :
    Calls Tryd.prog 5 #[bv] w (TruePost w) := by
  have hv := hb.code
  clear hb
  rcases hv.split with ⟨a, len, cap, rfl, hl, hl2⟩ | ⟨⟨a, len, cap, rfl, hl⟩, hC⟩
  · clear hv hT
    have hl' : (1048576 : Int) < (len : Int) := by omega
    go_enter Tryd.func5, Tryd.ntmps5
    go_wp2
    go_ret
    exact ⟨rfl, grefl w none⟩
  · have hl' : ¬ (1048576 : Int) < (len : Int) := by omega
    have HC := Lib.hid hC
    have HT := Lib.hid hT
    clear hv hC hT
    go_enter Tryd.func5, Tryd.ntmps5
    go_wp2_with fail
    refine (drawPair_any _ _ HC.out).mono ?_
    rintro e w1 ⟨s, t, hs, ht, rfl, hg1⟩
    have G1 := Lib.hid hg1
    clear hg1
    clear HC
    cases hvs : Lib.validD s.data.toList with
    | false =>
      have hne : ((s ++ t).toList == ([] : List UInt8)) = false := app_not s t (Or.inl (validD_not hvs))
      have hst : s.size + t.size ≤ 9223372036854775807 := by omega
      go_wp2_with fail
      refine (valid_isC s _ false (by omega) (HT.out.grown G1.out).ct hvs).mono ?_
      rintro e w2 ⟨rfl, hg2⟩
      have G2 := Lib.hid (gtrans G1.out hg2)
      clear hg2 G1
      have kc := some_conv
      have kc2 := some_conv2
      go_wp2_with fail
      refine (eqB_is _ _ _ _ _ true (by decide) (by decide) ((some_bytes w2 _).kept (World.grownBy_alloc _ _ none)) (some_bytes2 w2 _ _) (HT.out.grown (galloc (galloc G2.out _) _)) (eqF_refl _)).mono ?_
      rintro e wN ⟨rfl, hg⟩
      have GN := gtrans (galloc (galloc G2.out _) _) hg
      clear hg
      go_wp2_with fail
      go_ret
      exact ⟨by first | rfl | simp, GN⟩
    | true =>
      go_wp2_with fail
      refine (valid_isC s _ true (by omega) (HT.out.grown G1.out).ct hvs).mono ?_
      rintro e w2 ⟨rfl, hg2⟩
      have G2 := Lib.hid (gtrans G1.out hg2)
      clear hg2 G1
      cases hvt : Lib.validD t.data.toList with
      | false =>
        have hne : ((s ++ t).toList == ([] : List UInt8)) = false := app_not s t (Or.inr (validD_not hvt))
        have hst : s.size + t.size ≤ 9223372036854775807 := by omega
        go_wp2_with fail
        refine (valid_isC t _ false (by omega) (HT.out.grown G2.out).ct hvt).mono ?_
        rintro e w3 ⟨rfl, hg3⟩
        have G3 := Lib.hid (gtrans G2.out hg3)
        clear hg3 G2
        have kc := some_conv
        have kc2 := some_conv2
        go_wp2_with fail
        refine (eqB_is _ _ _ _ _ true (by decide) (by decide) ((some_bytes w3 _).kept (World.grownBy_alloc _ _ none)) (some_bytes2 w3 _ _) (HT.out.grown (galloc (galloc G3.out _) _)) (eqF_refl _)).mono ?_
        rintro e wN ⟨rfl, hg⟩
        have GN := gtrans (galloc (galloc G3.out _) _) hg
        clear hg
        go_wp2_with fail
        go_ret
        exact ⟨by first | rfl | simp, GN⟩
      | true =>
        go_wp2_with fail
        refine (valid_isC t _ true (by omega) (HT.out.grown G2.out).ct hvt).mono ?_
        rintro e w3 ⟨rfl, hg3⟩
        have G3 := Lib.hid (gtrans G2.out hg3)
        clear hg3 G2
        obtain ⟨o, ho⟩ := ex_out (mapD toUpperU s.data.toList)
        have zo := out_size toUpperU ho
        obtain ⟨u, hu⟩ := ex_out (mapD toLowerU s.data.toList)
        have zu := out_size toLowerU hu
        obtain ⟨y, hy⟩ := ex_out (mapD toTitleU s.data.toList)
        have zy := out_size toTitleU hy
        have Ho := Lib.hid ho
        have Hu := Lib.hid hu
        have Hy := Lib.hid hy
        clear ho hu hy zo zu zy
        obtain ⟨bq, hbq⟩ : ∃ b, eqF s.data.toList t.data.toList = b := ⟨_, rfl⟩
        have HQ := Lib.hid hbq
        clear hbq
        have hbb : (bq == bq) = true := by simp
        have hls : s.data.toList.length = s.size := (Lib.size_eq s).symm
        have hlt : t.data.toList.length = t.size := (Lib.size_eq t).symm
        go_wp2_with fail
        refine wp_region_held_drew (S := fun w' => w.grownBy w' none) (by kernel_rfl) (gdrew G3.out) (fun hHeld => ?_)
        generalize w3.drew = V0 at hHeld ⊢
        clear G3
        apply merge3 (F := fun a b W => BytesL W (.slice (some ⟨a, 0, none⟩) 4 4) #[115, 111, 109, 101].toList ∧ BytesL W (.slice (some ⟨b, 0, none⟩) 4 4) #[115, 111, 109, 101].toList ∧ w.grownBy W none)
        · intro key
          refine wpAnyH_ready (rs := [0, 2]) (by kernel_rfl) (by simp) ?_
          refine AllReadyH.cons (o := ?_) ?_ (fun K hK => ?_) ?_
          rotate_left 1
          · rw [List.getElem?_toArray]; rfl
          · skip
            go_simp
            obtain ⟨b1, V1, hf1, hb, hg, eV, eb⟩ := some_block V0
            rw [eV, eb]
            clear eV eb
            have hw1 := Nat.le_trans hHeld.size hb
            refine hK.out _ _ ?_ (fun hHeld => ?_)
            · exact gtrans hHeld hg
            clear hK K
            clear hg hb
            refine wpAnyH_ready (rs := [1, 2]) (by kernel_rfl) (by simp) ?_
            refine AllReadyH.cons (o := ?_) ?_ (fun K hK => ?_) ?_
            rotate_left 1
            · rw [List.getElem?_toArray]; rfl
            · skip
              obtain ⟨V2, hcb, hfn, hg⟩ := conv_mark V1 b1 hf1
              go_simp
              refine hK.out _ _ ?_ (fun hHeld => ?_)
              · exact gjoin hHeld hg hw1
              clear hK K
              clear hcb hg hf1
              have hf1 := hfn
              clear hfn
              refine wpAnyH_ready (rs := [2]) (by kernel_rfl) (by simp) ?_
              refine AllReadyH.cons (o := ?_) ?_ (fun K hK => ?_) AllReadyH.nil
              rotate_left 1
              · rw [List.getElem?_toArray]; rfl
              go_simp
              obtain ⟨b2, V3, hf2, hb, hg, eV, eb⟩ := some_block V2
              rw [eV, eb]
              clear eV eb
              have hw2 := Nat.le_trans hHeld.size hb
              have hne : b1 ≠ b2 := by have := hf1.lt; omega
              replace hf1 := hf1.kept hg
              refine hK.out _ _ ?_ (fun hHeld => ?_)
              · exact gtrans hHeld hg
              clear hK K
              clear hg hb
              refine wpAnyH_ready (rs := [3]) (by kernel_rfl) (by simp) ?_
              refine AllReadyH.cons (o := ?_) ?_ (fun K hK => ?_) AllReadyH.nil
              rotate_left 1
              · rw [List.getElem?_toArray]; rfl
              obtain ⟨V4, hcb, hfn, hg⟩ := conv_mark V3 b2 hf2
              go_simp
              refine hK.out _ _ ?_ (fun hHeld => ?_)
              · exact gjoin hHeld hg hw2
              clear hK K
              replace hf1 := hf1.other hg (by omega)
              clear hcb hg hf2
              have hf2 := hfn
              clear hfn
              exact key b1 b2 V4 ⟨hf1.bytes, hf2.bytes, hHeld⟩
            refine AllReadyH.cons (o := ?_) ?_ (fun K hK => ?_) AllReadyH.nil
            rotate_left 1
            · rw [List.getElem?_toArray]; rfl
            go_simp
            obtain ⟨b2, V2, hf2, hb, hg, eV, eb⟩ := some_block V1
            rw [eV, eb]
            clear eV eb
            have hw2 := Nat.le_trans hHeld.size hb
            have hne : b1 ≠ b2 := by have := hf1.lt; omega
            replace hf1 := hf1.kept hg
            refine hK.out _ _ ?_ (fun hHeld => ?_)
            · exact gtrans hHeld hg
            clear hK K
            clear hg hb
            refine wpAnyH_ready (rs := [1, 3]) (by kernel_rfl) (by simp) ?_
            refine AllReadyH.cons (o := ?_) ?_ (fun K hK => ?_) ?_
            rotate_left 1
            · rw [List.getElem?_toArray]; rfl
            · skip
              obtain ⟨V3, hcb, hfn, hg⟩ := conv_mark V2 b1 hf1
              go_simp
              refine hK.out _ _ ?_ (fun hHeld => ?_)
              · exact gjoin hHeld hg hw1
              clear hK K
              replace hf2 := hf2.other hg (by omega)
              clear hcb hg hf1
              have hf1 := hfn
              clear hfn
              refine wpAnyH_ready (rs := [3]) (by kernel_rfl) (by simp) ?_
              refine AllReadyH.cons (o := ?_) ?_ (fun K hK => ?_) AllReadyH.nil
              rotate_left 1
              · rw [List.getElem?_toArray]; rfl
              obtain ⟨V4, hcb, hfn, hg⟩ := conv_mark V3 b2 hf2
              go_simp
              refine hK.out _ _ ?_ (fun hHeld => ?_)
              · exact gjoin hHeld hg hw2
              clear hK K
              replace hf1 := hf1.other hg (by omega)
              clear hcb hg hf2
              have hf2 := hfn
              clear hfn
              exact key b1 b2 V4 ⟨hf1.bytes, hf2.bytes, hHeld⟩
            refine AllReadyH.cons (o := ?_) ?_ (fun K hK => ?_) AllReadyH.nil
            rotate_left 1
            · rw [List.getElem?_toArray]; rfl
            obtain ⟨V3, hcb, hfn, hg⟩ := conv_mark V2 b2 hf2
            go_simp
            refine hK.out _ _ ?_ (fun hHeld => ?_)
            · exact gjoin hHeld hg hw2
            clear hK K
            replace hf1 := hf1.other hg (by omega)
            clear hcb hg hf2
            have hf2 := hfn
            clear hfn
            refine wpAnyH_ready (rs := [1]) (by kernel_rfl) (by simp) ?_
            refine AllReadyH.cons (o := ?_) ?_ (fun K hK => ?_) AllReadyH.nil
            rotate_left 1
            · rw [List.getElem?_toArray]; rfl
            obtain ⟨V4, hcb, hfn, hg⟩ := conv_mark V3 b1 hf1
            go_simp
            refine hK.out _ _ ?_ (fun hHeld => ?_)
            · exact gjoin hHeld hg hw1
            clear hK K
            replace hf2 := hf2.other hg (by omega)
            clear hcb hg hf1
            have hf1 := hfn
            clear hfn
            exact key b1 b2 V4 ⟨hf1.bytes, hf2.bytes, hHeld⟩
          refine AllReadyH.cons (o := ?_) ?_ (fun K hK => ?_) AllReadyH.nil
          rotate_left 1
          · rw [List.getElem?_toArray]; rfl
          go_simp
          obtain ⟨b2, V1, hf2, hb, hg, eV, eb⟩ := some_block V0
          rw [eV, eb]
          clear eV eb
          have hw2 := Nat.le_trans hHeld.size hb
          refine hK.out _ _ ?_ (fun hHeld => ?_)
          · exact gtrans hHeld hg
          clear hK K
          clear hg hb
          refine wpAnyH_ready (rs := [0, 3]) (by kernel_rfl) (by simp) ?_
          refine AllReadyH.cons (o := ?_) ?_ (fun K hK => ?_) ?_
          rotate_left 1
          · rw [List.getElem?_toArray]; rfl
          · skip
            go_simp
            obtain ⟨b1, V2, hf1, hb, hg, eV, eb⟩ := some_block V1
            rw [eV, eb]
            clear eV eb
            have hw1 := Nat.le_trans hHeld.size hb
            have hne : b2 ≠ b1 := by have := hf2.lt; omega
            replace hf2 := hf2.kept hg
            refine hK.out _ _ ?_ (fun hHeld => ?_)
            · exact gtrans hHeld hg
            clear hK K
            clear hg hb
            refine wpAnyH_ready (rs := [1, 3]) (by kernel_rfl) (by simp) ?_
            refine AllReadyH.cons (o := ?_) ?_ (fun K hK => ?_) ?_
            rotate_left 1
            · rw [List.getElem?_toArray]; rfl
            · skip
              obtain ⟨V3, hcb, hfn, hg⟩ := conv_mark V2 b1 hf1
              go_simp
              refine hK.out _ _ ?_ (fun hHeld => ?_)
              · exact gjoin hHeld hg hw1
              clear hK K
              replace hf2 := hf2.other hg (by omega)
              clear hcb hg hf1
              have hf1 := hfn
              clear hfn
              refine wpAnyH_ready (rs := [3]) (by kernel_rfl) (by simp) ?_
              refine AllReadyH.cons (o := ?_) ?_ (fun K hK => ?_) AllReadyH.nil
              rotate_left 1
              · rw [List.getElem?_toArray]; rfl
              obtain ⟨V4, hcb, hfn, hg⟩ := conv_mark V3 b2 hf2
              go_simp
              refine hK.out _ _ ?_ (fun hHeld => ?_)
              · exact gjoin hHeld hg hw2
              clear hK K
              replace hf1 := hf1.other hg (by omega)
              clear hcb hg hf2
              have hf2 := hfn
              clear hfn
              exact key b1 b2 V4 ⟨hf1.bytes, hf2.bytes, hHeld⟩
            refine AllReadyH.cons (o := ?_) ?_ (fun K hK => ?_) AllReadyH.nil
            rotate_left 1
            · rw [List.getElem?_toArray]; rfl
            obtain ⟨V3, hcb, hfn, hg⟩ := conv_mark V2 b2 hf2
            go_simp
            refine hK.out _ _ ?_ (fun hHeld => ?_)
            · exact gjoin hHeld hg hw2
            clear hK K
            replace hf1 := hf1.other hg (by omega)
            clear hcb hg hf2
            have hf2 := hfn
            clear hfn
            refine wpAnyH_ready (rs := [1]) (by kernel_rfl) (by simp) ?_
            refine AllReadyH.cons (o := ?_) ?_ (fun K hK => ?_) AllReadyH.nil
            rotate_left 1
            · rw [List.getElem?_toArray]; rfl
            obtain ⟨V4, hcb, hfn, hg⟩ := conv_mark V3 b1 hf1
            go_simp
            refine hK.out _ _ ?_ (fun hHeld => ?_)
            · exact gjoin hHeld hg hw1
            clear hK K
            replace hf2 := hf2.other hg (by omega)
            clear hcb hg hf1
            have hf1 := hfn
            clear hfn
            exact key b1 b2 V4 ⟨hf1.bytes, hf2.bytes, hHeld⟩
          refine AllReadyH.cons (o := ?_) ?_ (fun K hK => ?_) AllReadyH.nil
          rotate_left 1
          · rw [List.getElem?_toArray]; rfl
          obtain ⟨V2, hcb, hfn, hg⟩ := conv_mark V1 b2 hf2
          go_simp
          refine hK.out _ _ ?_ (fun hHeld => ?_)
          · exact gjoin hHeld hg hw2
          clear hK K
          clear hcb hg hf2
          have hf2 := hfn
          clear hfn
          refine wpAnyH_ready (rs := [0]) (by kernel_rfl) (by simp) ?_
          refine AllReadyH.cons (o := ?_) ?_ (fun K hK => ?_) AllReadyH.nil
          rotate_left 1
          · rw [List.getElem?_toArray]; rfl
          go_simp
          obtain ⟨b1, V3, hf1, hb, hg, eV, eb⟩ := some_block V2
          rw [eV, eb]
          clear eV eb
          have hw1 := Nat.le_trans hHeld.size hb
          have hne : b2 ≠ b1 := by have := hf2.lt; omega
          replace hf2 := hf2.kept hg
          refine hK.out _ _ ?_ (fun hHeld => ?_)
          · exact gtrans hHeld hg
          clear hK K
          clear hg hb
          refine wpAnyH_ready (rs := [1]) (by kernel_rfl) (by simp) ?_
          refine AllReadyH.cons (o := ?_) ?_ (fun K hK => ?_) AllReadyH.nil
          rotate_left 1
          · rw [List.getElem?_toArray]; rfl
          obtain ⟨V4, hcb, hfn, hg⟩ := conv_mark V3 b1 hf1
          go_simp
          refine hK.out _ _ ?_ (fun hHeld => ?_)
          · exact gjoin hHeld hg hw1
          clear hK K
          replace hf2 := hf2.other hg (by omega)
          clear hcb hg hf1
          have hf1 := hfn
          clear hfn
          exact key b1 b2 V4 ⟨hf1.bytes, hf2.bytes, hHeld⟩
        intro b1 b2 V hF
        obtain ⟨hB1, hB2, hHeld⟩ := hF
        refine wpAnyH_ready (rs := [4]) (by kernel_rfl) (by simp) ?_
        refine AllReadyH.cons (o := ?_) ?_ (fun K hK => ?_) AllReadyH.nil
        rotate_left 1
        · rw [List.getElem?_toArray]; rfl
        go_simp
        go_wp2_with (go_at_call 18; refine (eqB_is _ _ _ _ V true (by decide) (by decide) hB1 hB2 (HT.out.grown hHeld) (eqF_refl _)).mono ?_; rintro e VE ⟨rfl, hgE⟩)
        refine hK.out _ _ ?_ (fun hHeld => ?_)
        · exact gtrans hHeld hgE
        clear hK K
        clear hB1 hB2 hgE
        refine wpAnyH_take (i := 5) (oi := ?_) (v := ?_) ?_ (by kernel_rfl) (by kernel_rfl) (by kernel_rfl) ?_ (Or.inl ⟨?_, ?_⟩) hHeld ?_
        rotate_left 2
        · rw [List.getElem?_toArray]; rfl
        · exact fun _ _ _ h => h
        · rfl
        · intro w' hSw
          go_simp
          try with_reducible rfl
        try simp only [Act.put, List.setIfInBounds_toArray, List.set_cons_zero, List.set_cons_succ]
        refine wpAnyH_take (i := 6) (oi := ?_) (v := ?_) ?_ (by kernel_rfl) (by kernel_rfl) (by kernel_rfl) ?_ (Or.inl ⟨?_, ?_⟩) hHeld ?_
        rotate_left 2
        · rw [List.getElem?_toArray]; rfl
        · exact fun _ _ _ h => h
        · rfl
        · intro w' hSw
          go_simp
          try with_reducible rfl
        try simp only [Act.put, List.setIfInBounds_toArray, List.set_cons_zero, List.set_cons_succ]
        refine wpAnyH_take (i := 8) (oi := ?_) (v := ?_) ?_ (by kernel_rfl) (by kernel_rfl) (by kernel_rfl) ?_ (Or.inl ⟨?_, ?_⟩) hHeld ?_
        rotate_left 2
        · rw [List.getElem?_toArray]; rfl
        · exact fun _ _ _ h => h
        · rfl
        · intro w' hSw
          go_simp
          try with_reducible rfl
        try simp only [Act.put, List.setIfInBounds_toArray, List.set_cons_zero, List.set_cons_succ]
        refine wpAnyH_take (i := 11) (oi := ?_) (v := ?_) ?_ (by kernel_rfl) (by kernel_rfl) (by kernel_rfl) ?_ (Or.inl ⟨?_, ?_⟩) hHeld ?_
        rotate_left 2
        · rw [List.getElem?_toArray]; rfl
        · exact fun _ _ _ h => h
        · rfl
        · intro w' hSw
          go_simp
          try with_reducible rfl
        try simp only [Act.put, List.setIfInBounds_toArray, List.set_cons_zero, List.set_cons_succ]
        refine wpAnyH_take (i := 12) (oi := ?_) (v := ?_) ?_ (by kernel_rfl) (by kernel_rfl) (by kernel_rfl) ?_ (Or.inl ⟨?_, ?_⟩) hHeld ?_
        rotate_left 2
        · rw [List.getElem?_toArray]; rfl
        · exact fun _ _ _ h => h
        · rfl
        · intro w' hSw
          go_simp
          try with_reducible rfl
        try simp only [Act.put, List.setIfInBounds_toArray, List.set_cons_zero, List.set_cons_succ]
        apply merge5 (F := fun a b c d W => BytesL W (.slice (some ⟨a, 0, none⟩) s.size b) s.data.toList ∧ BytesL W (.slice (some ⟨c, 0, none⟩) t.size d) t.data.toList ∧ w.grownBy W none)
        · intro key
          refine wpAnyH_ready (rs := [7, 9]) (by kernel_rfl) (by simp) ?_
          refine AllReadyH.cons (o := ?_) ?_ (fun K hK => ?_) ?_
          rotate_left 1
          · rw [List.getElem?_toArray]; rfl
          · skip
            obtain ⟨a1, c1, VA, hcb, hB1, hg1⟩ := to_bytes VE s (by omega)
            go_simp
            refine hK.out _ _ ?_ (fun hHeld => ?_)
            · exact gtrans hHeld hg1
            clear hK K
            clear hcb
            refine wpAnyH_ready (rs := [9]) (by kernel_rfl) (by simp) ?_
            refine AllReadyH.cons (o := ?_) ?_ (fun K hK => ?_) AllReadyH.nil
            rotate_left 1
            · rw [List.getElem?_toArray]; rfl
            obtain ⟨a2, c2, VB, hcb, hB2, hg2⟩ := to_bytes VA t (by omega)
            go_simp
            refine hK.out _ _ ?_ (fun hHeld => ?_)
            · exact gtrans hHeld hg2
            clear hK K
            clear hcb
            exact key a1 c1 a2 c2 VB ⟨hB1.kept hg2, hB2, hHeld⟩
          refine AllReadyH.cons (o := ?_) ?_ (fun K hK => ?_) AllReadyH.nil
          rotate_left 1
          · rw [List.getElem?_toArray]; rfl
          obtain ⟨a2, c2, VA, hcb, hB2, hg2⟩ := to_bytes VE t (by omega)
          go_simp
          refine hK.out _ _ ?_ (fun hHeld => ?_)
          · exact gtrans hHeld hg2
          clear hK K
          clear hcb
          refine wpAnyH_ready (rs := [7]) (by kernel_rfl) (by simp) ?_
          refine AllReadyH.cons (o := ?_) ?_ (fun K hK => ?_) AllReadyH.nil
          rotate_left 1
          · rw [List.getElem?_toArray]; rfl
          obtain ⟨a1, c1, VB, hcb, hB1, hg1⟩ := to_bytes VA s (by omega)
          go_simp
          refine hK.out _ _ ?_ (fun hHeld => ?_)
          · exact gtrans hHeld hg1
          clear hK K
          clear hcb
          exact key a1 c1 a2 c2 VB ⟨hB1, hB2.kept hg1, hHeld⟩
        intro a1 c1 a2 c2 V hF
        obtain ⟨hB1, hB2, hHeld⟩ := hF
        refine wpAnyH_ready (rs := [10]) (by kernel_rfl) (by simp) ?_
        refine AllReadyH.cons (o := ?_) ?_ (fun K hK => ?_) AllReadyH.nil
        rotate_left 1
        · rw [List.getElem?_toArray]; rfl
        go_simp
        go_wp2_with (go_at_call 18; refine (eqB_is _ _ _ _ V bq (by omega) (by omega) hB1 hB2 (HT.out.grown hHeld) HQ.out).mono ?_; rintro e VE ⟨rfl, hgE⟩)
        refine hK.out _ _ ?_ (fun hHeld => ?_)
        · exact gtrans hHeld hgE
        clear hK K
        clear hB1 hB2 hgE
        refine wpAnyH_ready (rs := [13]) (by kernel_rfl) (by simp) ?_
        refine AllReadyH.cons (o := ?_) ?_ (fun K hK => ?_) AllReadyH.nil
        rotate_left 1
        · rw [List.getElem?_toArray]; rfl
        go_simp
        go_wp2_with (go_at_call 19; refine (eq_call s t VE bq (by omega) (by omega) (HT.out.grown hHeld) HQ.out).mono ?_; rintro e VF ⟨rfl, hgE⟩)
        refine hK.out _ _ ?_ (fun hHeld => ?_)
        · exact gtrans hHeld hgE
        clear hK K
        clear hgE
        refine wpAnyH_take (i := 14) (oi := ?_) (v := ?_) ?_ (by kernel_rfl) (by kernel_rfl) (by kernel_rfl) ?_ (Or.inl ⟨?_, ?_⟩) hHeld ?_
        rotate_left 2
        · rw [List.getElem?_toArray]; rfl
        · exact fun _ _ _ h => h
        · rfl
        · intro w' hSw
          go_simp
          try with_reducible rfl
        try simp only [Act.put, List.setIfInBounds_toArray, List.set_cons_zero, List.set_cons_succ]
        refine wpAnyH_take (i := 15) (oi := ?_) (v := ?_) ?_ (by kernel_rfl) (by kernel_rfl) (by kernel_rfl) ?_ (Or.inl ⟨?_, ?_⟩) hHeld ?_
        rotate_left 2
        · rw [List.getElem?_toArray]; rfl
        · exact fun _ _ _ h => h
        · rfl
        · intro w' hSw
          go_simp
          try with_reducible rfl
        try simp only [Act.put, List.setIfInBounds_toArray, List.set_cons_zero, List.set_cons_succ]
        refine wpAnyH_take (i := 16) (oi := ?_) (v := ?_) ?_ (by kernel_rfl) (by kernel_rfl) (by kernel_rfl) ?_ (Or.inl ⟨?_, ?_⟩) hHeld ?_
        rotate_left 2
        · rw [List.getElem?_toArray]; rfl
        · exact fun _ _ _ h => h
        · rfl
        · intro w' hSw
          go_simp
          try with_reducible rfl
        try simp only [Act.put, List.setIfInBounds_toArray, List.set_cons_zero, List.set_cons_succ]
        have J := Lib.hid hHeld
        refine wpAnyH_take (i := 17) (oi := ?_) (v := ?_) ?_ (by kernel_rfl) (by kernel_rfl) (by kernel_rfl) ?_ (Or.inl ⟨?_, ?_⟩) hHeld ?_
        rotate_left 2
        · rw [List.getElem?_toArray]; rfl
        · exact fun _ _ _ h => h
        · rfl
        · intro w' hSw
          go_simp
          try with_reducible rfl
        try simp only [Act.put, List.setIfInBounds_toArray, List.set_cons_zero, List.set_cons_succ]
        refine wpAnyH_take (i := 21) (oi := ?_) (v := ?_) ?_ (by kernel_rfl) (by kernel_rfl) (by kernel_rfl) ?_ (Or.inl ⟨?_, ?_⟩) hHeld ?_
        rotate_left 2
        · rw [List.getElem?_toArray]; rfl
        · exact fun _ _ _ h => h
        · rfl
        · intro w' hSw
          go_simp
          try with_reducible rfl
        try simp only [Act.put, List.setIfInBounds_toArray, List.set_cons_zero, List.set_cons_succ]
        refine wpAnyH_ready (rs := [18]) (by kernel_rfl) (by simp) ?_
        refine AllReadyH.cons (o := ?_) ?_ (fun K hK => ?_) AllReadyH.nil
        rotate_left 1
        · rw [List.getElem?_toArray]; rfl
        obtain ⟨ab, cb, VB0, hcb, hB, hgB⟩ := to_bytes VF s (by omega)
        go_simp
        refine hK.out _ _ ?_ (fun hHeld => ?_)
        · exact gtrans hHeld hgB
        clear hK K
        clear hcb
        replace J := Lib.hid (gtrans J.out hgB)
        clear hgB
        refine wpAnyH_ready (rs := [19]) (by kernel_rfl) (by simp) ?_
        refine AllReadyH.cons (o := ?_) ?_ (fun K hK => ?_) AllReadyH.nil
        rotate_left 1
        · rw [List.getElem?_toArray]; rfl
        go_simp
        go_wp2_with (go_at_call 20; refine (bytesUpper_is _ _ o VB0 hB (by omega) (HT.out.grown J.out).ct Ho.out).mono ?_; rintro e VM0 ⟨gM, cM, rfl, hO, hgM⟩)
        refine hK.out _ _ ?_ (fun hHeld => ?_)
        · exact gtrans hHeld hgM
        clear hK K
        replace J := Lib.hid (gtrans J.out hgM)
        clear hgM hB
        have JM := Lib.hid hHeld
        refine wpAnyH_more (S' := fun w' => VM0.grownBy w' none) (fun w' h => gtrans JM.out h) _ _ _ _ ?_
        replace hHeld : (fun w' => VM0.grownBy w' none) _ := grefl VM0 none
        clear JM
        refine wpAnyH_take (i := 20) (oi := ?_) (v := ?_) ?_ (by kernel_rfl) (by kernel_rfl) (by kernel_rfl) ?_ (Or.inl ⟨?_, ?_⟩) hHeld ?_
        rotate_left 2
        · rw [List.getElem?_toArray]; rfl
        · exact fun _ _ _ h => h
        · rfl
        · intro w' hSw
          have hcv := hO _ hSw
          go_simp
          try with_reducible rfl
        try simp only [Act.put, List.setIfInBounds_toArray, List.set_cons_zero, List.set_cons_succ]
        clear hO
        refine wpAnyH_ready (rs := [22]) (by kernel_rfl) (by simp) ?_
        refine AllReadyH.cons (o := ?_) ?_ (fun K hK => ?_) AllReadyH.nil
        rotate_left 1
        · rw [List.getElem?_toArray]; rfl
        go_simp
        go_wp2_with (go_at_call 21; refine (implUpper_is s VM0 o (by omega) (HT.out.grown J.out).ct Ho.out).mono ?_; rintro e VN0 ⟨rfl, hgN⟩)
        refine hK.out _ _ ?_ (fun hHeld => ?_)
        · exact gtrans hHeld hgN
        clear hK K
        replace J := Lib.hid (gtrans J.out hgN)
        clear hgN
        refine wpAnyH_take (i := 23) (oi := ?_) (v := ?_) ?_ (by kernel_rfl) (by kernel_rfl) (by kernel_rfl) ?_ (Or.inl ⟨?_, ?_⟩) hHeld ?_
        rotate_left 2
        · rw [List.getElem?_toArray]; rfl
        · exact fun _ _ _ h => h
        · rfl
        · intro w' hSw
          go_simp
          try with_reducible rfl
        try simp only [Act.put, List.setIfInBounds_toArray, List.set_cons_zero, List.set_cons_succ]
        refine wpAnyH_take (i := 24) (oi := ?_) (v := ?_) ?_ (by kernel_rfl) (by kernel_rfl) (by kernel_rfl) ?_ (Or.inl ⟨?_, ?_⟩) hHeld ?_
        rotate_left 2
        · rw [List.getElem?_toArray]; rfl
        · exact fun _ _ _ h => h
        · rfl
        · intro w' hSw
          go_simp
          try with_reducible rfl
        try simp only [Act.put, List.setIfInBounds_toArray, List.set_cons_zero, List.set_cons_succ]
        refine wpAnyH_take (i := 25) (oi := ?_) (v := ?_) ?_ (by kernel_rfl) (by kernel_rfl) (by kernel_rfl) ?_ (Or.inl ⟨?_, ?_⟩) hHeld ?_
        rotate_left 2
        · rw [List.getElem?_toArray]; rfl
        · exact fun _ _ _ h => h
        · rfl
        · intro w' hSw
          go_simp
          try with_reducible rfl
        try simp only [Act.put, List.setIfInBounds_toArray, List.set_cons_zero, List.set_cons_succ]
        refine wpAnyH_take (i := 26) (oi := ?_) (v := ?_) ?_ (by kernel_rfl) (by kernel_rfl) (by kernel_rfl) ?_ (Or.inl ⟨?_, ?_⟩) hHeld ?_
        rotate_left 2
        · rw [List.getElem?_toArray]; rfl
        · exact fun _ _ _ h => h
        · rfl
        · intro w' hSw
          go_simp
          try with_reducible rfl
        try simp only [Act.put, List.setIfInBounds_toArray, List.set_cons_zero, List.set_cons_succ]
        refine wpAnyH_take (i := 30) (oi := ?_) (v := ?_) ?_ (by kernel_rfl) (by kernel_rfl) (by kernel_rfl) ?_ (Or.inl ⟨?_, ?_⟩) hHeld ?_
        rotate_left 2
        · rw [List.getElem?_toArray]; rfl
        · exact fun _ _ _ h => h
        · rfl
        · intro w' hSw
          go_simp
          try with_reducible rfl
        try simp only [Act.put, List.setIfInBounds_toArray, List.set_cons_zero, List.set_cons_succ]
        refine wpAnyH_ready (rs := [27]) (by kernel_rfl) (by simp) ?_
        refine AllReadyH.cons (o := ?_) ?_ (fun K hK => ?_) AllReadyH.nil
        rotate_left 1
        · rw [List.getElem?_toArray]; rfl
        obtain ⟨ab, cb, VB1, hcb, hB, hgB⟩ := to_bytes VN0 s (by omega)
        go_simp
        refine hK.out _ _ ?_ (fun hHeld => ?_)
        · exact gtrans hHeld hgB
        clear hK K
        clear hcb
        replace J := Lib.hid (gtrans J.out hgB)
        clear hgB
        refine wpAnyH_ready (rs := [28]) (by kernel_rfl) (by simp) ?_
        refine AllReadyH.cons (o := ?_) ?_ (fun K hK => ?_) AllReadyH.nil
        rotate_left 1
        · rw [List.getElem?_toArray]; rfl
        go_simp
        go_wp2_with (go_at_call 22; refine (bytesLower_is _ _ u VB1 hB (by omega) (HT.out.grown J.out).ct Hu.out).mono ?_; rintro e VM1 ⟨gM, cM, rfl, hO, hgM⟩)
        refine hK.out _ _ ?_ (fun hHeld => ?_)
        · exact gtrans hHeld hgM
        clear hK K
        replace J := Lib.hid (gtrans J.out hgM)
        clear hgM hB
        have JM := Lib.hid hHeld
        refine wpAnyH_more (S' := fun w' => VM1.grownBy w' none) (fun w' h => gtrans JM.out h) _ _ _ _ ?_
        replace hHeld : (fun w' => VM1.grownBy w' none) _ := grefl VM1 none
        clear JM
        refine wpAnyH_take (i := 29) (oi := ?_) (v := ?_) ?_ (by kernel_rfl) (by kernel_rfl) (by kernel_rfl) ?_ (Or.inl ⟨?_, ?_⟩) hHeld ?_
        rotate_left 2
        · rw [List.getElem?_toArray]; rfl
        · exact fun _ _ _ h => h
        · rfl
        · intro w' hSw
          have hcv := hO _ hSw
          go_simp
          try with_reducible rfl
        try simp only [Act.put, List.setIfInBounds_toArray, List.set_cons_zero, List.set_cons_succ]
        clear hO
        refine wpAnyH_ready (rs := [31]) (by kernel_rfl) (by simp) ?_
        refine AllReadyH.cons (o := ?_) ?_ (fun K hK => ?_) AllReadyH.nil
        rotate_left 1
        · rw [List.getElem?_toArray]; rfl
        go_simp
        go_wp2_with (go_at_call 23; refine (implLower_is s VM1 u (by omega) (HT.out.grown J.out).ct Hu.out).mono ?_; rintro e VN1 ⟨rfl, hgN⟩)
        refine hK.out _ _ ?_ (fun hHeld => ?_)
        · exact gtrans hHeld hgN
        clear hK K
        replace J := Lib.hid (gtrans J.out hgN)
        clear hgN
        refine wpAnyH_take (i := 32) (oi := ?_) (v := ?_) ?_ (by kernel_rfl) (by kernel_rfl) (by kernel_rfl) ?_ (Or.inl ⟨?_, ?_⟩) hHeld ?_
        rotate_left 2
        · rw [List.getElem?_toArray]; rfl
        · exact fun _ _ _ h => h
        · rfl
        · intro w' hSw
          go_simp
          try with_reducible rfl
        try simp only [Act.put, List.setIfInBounds_toArray, List.set_cons_zero, List.set_cons_succ]
        refine wpAnyH_take (i := 33) (oi := ?_) (v := ?_) ?_ (by kernel_rfl) (by kernel_rfl) (by kernel_rfl) ?_ (Or.inl ⟨?_, ?_⟩) hHeld ?_
        rotate_left 2
        · rw [List.getElem?_toArray]; rfl
        · exact fun _ _ _ h => h
        · rfl
        · intro w' hSw
          go_simp
          try with_reducible rfl
        try simp only [Act.put, List.setIfInBounds_toArray, List.set_cons_zero, List.set_cons_succ]
        refine wpAnyH_take (i := 34) (oi := ?_) (v := ?_) ?_ (by kernel_rfl) (by kernel_rfl) (by kernel_rfl) ?_ (Or.inl ⟨?_, ?_⟩) hHeld ?_
        rotate_left 2
        · rw [List.getElem?_toArray]; rfl
        · exact fun _ _ _ h => h
        · rfl
        · intro w' hSw
          go_simp
          try with_reducible rfl
        try simp only [Act.put, List.setIfInBounds_toArray, List.set_cons_zero, List.set_cons_succ]
        refine wpAnyH_take (i := 35) (oi := ?_) (v := ?_) ?_ (by kernel_rfl) (by kernel_rfl) (by kernel_rfl) ?_ (Or.inl ⟨?_, ?_⟩) hHeld ?_
        rotate_left 2
        · rw [List.getElem?_toArray]; rfl
        · exact fun _ _ _ h => h
        · rfl
        · intro w' hSw
          go_simp
          try with_reducible rfl
        try simp only [Act.put, List.setIfInBounds_toArray, List.set_cons_zero, List.set_cons_succ]
        refine wpAnyH_take (i := 39) (oi := ?_) (v := ?_) ?_ (by kernel_rfl) (by kernel_rfl) (by kernel_rfl) ?_ (Or.inl ⟨?_, ?_⟩) hHeld ?_
        rotate_left 2
        · rw [List.getElem?_toArray]; rfl
        · exact fun _ _ _ h => h
        · rfl
        · intro w' hSw
          go_simp
          try with_reducible rfl
        try simp only [Act.put, List.setIfInBounds_toArray, List.set_cons_zero, List.set_cons_succ]
        refine wpAnyH_ready (rs := [36]) (by kernel_rfl) (by simp) ?_
        refine AllReadyH.cons (o := ?_) ?_ (fun K hK => ?_) AllReadyH.nil
        rotate_left 1
        · rw [List.getElem?_toArray]; rfl
        obtain ⟨ab, cb, VB2, hcb, hB, hgB⟩ := to_bytes VN1 s (by omega)
        go_simp
        refine hK.out _ _ ?_ (fun hHeld => ?_)
        · exact gtrans hHeld hgB
        clear hK K
        clear hcb
        replace J := Lib.hid (gtrans J.out hgB)
        clear hgB
        refine wpAnyH_ready (rs := [37]) (by kernel_rfl) (by simp) ?_
        refine AllReadyH.cons (o := ?_) ?_ (fun K hK => ?_) AllReadyH.nil
        rotate_left 1
        · rw [List.getElem?_toArray]; rfl
        go_simp
        go_wp2_with (go_at_call 24; refine (bytesTitle_is _ _ y VB2 hB (by omega) (HT.out.grown J.out).ct Hy.out).mono ?_; rintro e VM2 ⟨gM, cM, rfl, hO, hgM⟩)
        refine hK.out _ _ ?_ (fun hHeld => ?_)
        · exact gtrans hHeld hgM
        clear hK K
        replace J := Lib.hid (gtrans J.out hgM)
        clear hgM hB
        have JM := Lib.hid hHeld
        refine wpAnyH_more (S' := fun w' => VM2.grownBy w' none) (fun w' h => gtrans JM.out h) _ _ _ _ ?_
        replace hHeld : (fun w' => VM2.grownBy w' none) _ := grefl VM2 none
        clear JM
        refine wpAnyH_take (i := 38) (oi := ?_) (v := ?_) ?_ (by kernel_rfl) (by kernel_rfl) (by kernel_rfl) ?_ (Or.inl ⟨?_, ?_⟩) hHeld ?_
        rotate_left 2
        · rw [List.getElem?_toArray]; rfl
        · exact fun _ _ _ h => h
        · rfl
        · intro w' hSw
          have hcv := hO _ hSw
          go_simp
          try with_reducible rfl
        try simp only [Act.put, List.setIfInBounds_toArray, List.set_cons_zero, List.set_cons_succ]
        clear hO
        refine wpAnyH_ready (rs := [40]) (by kernel_rfl) (by simp) ?_
        refine AllReadyH.cons (o := ?_) ?_ (fun K hK => ?_) AllReadyH.nil
        rotate_left 1
        · rw [List.getElem?_toArray]; rfl
        go_simp
        go_wp2_with (go_at_call 25; refine (implTitle_is s VM2 y (by omega) (HT.out.grown J.out).ct Hy.out).mono ?_; rintro e VN2 ⟨rfl, hgN⟩)
        refine hK.out _ _ ?_ (fun hHeld => ?_)
        · exact gtrans hHeld hgN
        clear hK K
        replace J := Lib.hid (gtrans J.out hgN)
        clear hgN
        refine wpAnyH_take (i := 41) (oi := ?_) (v := ?_) ?_ (by kernel_rfl) (by kernel_rfl) (by kernel_rfl) ?_ (Or.inl ⟨?_, ?_⟩) hHeld ?_
        rotate_left 2
        · rw [List.getElem?_toArray]; rfl
        · exact fun _ _ _ h => h
        · rfl
        · intro w' hSw
          go_simp
          try with_reducible rfl
        try simp only [Act.put, List.setIfInBounds_toArray, List.set_cons_zero, List.set_cons_succ]
        refine wpAnyH_take (i := 42) (oi := ?_) (v := ?_) ?_ (by kernel_rfl) (by kernel_rfl) (by kernel_rfl) ?_ (Or.inl ⟨?_, ?_⟩) hHeld ?_
        rotate_left 2
        · rw [List.getElem?_toArray]; rfl
        · exact fun _ _ _ h => h
        · rfl
        · intro w' hSw
          go_simp
          try with_reducible rfl
        try simp only [Act.put, List.setIfInBounds_toArray, List.set_cons_zero, List.set_cons_succ]
        refine wpAnyH_take (i := 43) (oi := ?_) (v := ?_) ?_ (by kernel_rfl) (by kernel_rfl) (by kernel_rfl) ?_ (Or.inl ⟨?_, ?_⟩) hHeld ?_
        rotate_left 2
        · rw [List.getElem?_toArray]; rfl
        · exact fun _ _ _ h => h
        · rfl
        · intro w' hSw
          go_simp
          try with_reducible rfl
        try simp only [Act.put, List.setIfInBounds_toArray, List.set_cons_zero, List.set_cons_succ]
        refine wpAnyH_done (by kernel_rfl) ?_ _
        go_wp2_with fail
        go_ret
        exact ⟨by first | rfl | simp, J.out⟩

end Go.Proofs.YtjcbhnnlakfmaaaDoor
