/- The law FnMapFold: to map characters to equivalent ones keeps a text equal under folding. Written by gen_lawmapf.py. -/
import Derived.Test.YtjcbhnnlakfmaaaDoorMapFP
import Derived.Test.YtjcbhnnlakfmaaaDoorLawMapD
import Derived.Test.YtjcbhnnlakfmaaaDoorEqC
import Derived.Test.YtjcbhnnlakfmaaaDoorReg
import Derived.Deep.AppendLies
namespace Go.Proofs.YtjcbhnnlakfmaaaDoor
open Go.Shelf Go.RowKit Go.Lib Go.Ftx
theorem rule_block (V : World) (x y : Value) : ∃ b W', W'.heap[b]? = some (.cells #[x, y] 30 (0, 0)) ∧ V.heap.size ≤ b ∧ V.grownBy W' none ∧ V.alloc (.cells #[x, y] 30) = W' ∧ V.heap.size = b :=
  ⟨V.heap.size, _, heap_alloc_new V _, Nat.le_refl _, World.grownBy_alloc V _ none, rfl, rfl⟩
theorem rules_fold {w : World} {base : Nat} {e : TypeId} {v : Value} {T : List (Int × Int)} (h : w.ownsRow base e 2 v T.length (ruleCells (T.map foldR))) : RulesL w v (T.map foldR) :=
  rules_of_own (by rw [List.length_map]; exact h)

theorem implFold_is (r v : Int) (w : World) (hT : FoldTabs w) (h : foldU r = v) : Calls Tryd.prog 38 #[.int .i32 r] w fun e w' => e = .returned (.int .i32 v) ∧ w.grownBy w' none :=
  (implFold_any r w hT).mono fun _ _ ⟨he, q, hq⟩ => ⟨by rw [he, h], hq ▸ gdrewN (grefl w none) q⟩

set_option maxHeartbeats 8000000 in
theorem mapFold_walk (w : World) (l : List UInt8) (bv : Value) (hb : BytesL w bv l) (hT : EqTabs w) :
    Calls Tryd.prog 11 #[bv] w (TruePost w) := by
  have hv := hb.code
  clear hb
  rcases hv.split with ⟨a, len, cap, rfl, hl, hl2⟩ | ⟨⟨a, len, cap, rfl, hl⟩, hC⟩
  · clear hv hT
    have hl' : (1048576 : Int) < (len : Int) := by omega
    go_enter Tryd.func11, Tryd.ntmps11
    go_wp2
    go_ret
    exact ⟨rfl, grefl w none⟩
  · have hl' : ¬ (1048576 : Int) < (len : Int) := by omega
    have HC := Lib.hid hC
    have HT := Lib.hid hT
    clear hv hC hT
    go_enter Tryd.func11, Tryd.ntmps11
    go_wp2_with fail
    refine (drawMap_any _ _ HC.out).mono ?_
    rintro e w1 ⟨tv, T, keep, rest, s, hT5, hok, -, -, hs, rfl, hRL, hg1⟩
    have HR := Lib.hid hRL
    have HOK := Lib.hid hok
    clear hRL hok
    have G1 := Lib.hid hg1
    clear hg1
    clear HC
    cases hvs : Lib.validD s.data.toList with
    | false =>
      have hne : (s.toList == ([] : List UInt8)) = false := str_notM (validD_notM hvs)
      go_wp2_with fail
      refine (valid_isM s _ false (by omega) (HT.out.grown G1.out).2 hvs).mono ?_
      rintro e w2 ⟨rfl, hg2⟩
      have G2 := Lib.hid (gtrans G1.out hg2)
      clear hg2 G1
      go_wp2_with fail
      refine (mapped_is _ [] true 0 _ (⟨#[115, 111, 109, 101]⟩ : ByteArray) _ (RulesL.nil _) (by decide) okT_nil (by decide) (by decide) (HT.out.grown G2.out).2 (by decide +kernel)).mono ?_
      rintro e w3 ⟨rfl, hg3⟩
      have G3 := Lib.hid (gtrans G2.out hg3)
      clear hg3 G2
      go_wp2_with fail
      go_ret
      exact ⟨rfl, G3.out⟩
    | true =>
      go_wp2_with fail
      refine (valid_isM s _ true (by omega) (HT.out.grown G1.out).2 hvs).mono ?_
      rintro e w2 ⟨rfl, hg2⟩
      replace HR := Lib.hid (HR.out.kept hg2)
      have G2 := Lib.hid (gtrans G1.out hg2)
      clear hg2 G1
      obtain ⟨o, ho⟩ := ex_outM (mapD (imgT (T.map foldR) true 0) s.data.toList)
      have he := map_fold T s.data.toList
      rw [ho] at he
      have zo := out_sizeM _ ho
      have HO1 := Lib.hid ho
      have HE := Lib.hid he
      have HOKF := Lib.hid (okT_fold HOK.out)
      clear ho he hvs HOK
      obtain ⟨ta, tc, rfl, -, hcells⟩ := HR.out.form
      have HCE := Lib.hid hcells
      clear hcells HR
      obtain ⟨i0, hi, hz0, hz1, hz2⟩ := info_parts info_specR
      go_wp2_with fail
      go_loopg [7, 8] T.length (fun g s7 s8 wx => ∃ k : Nat, k + g = T.length ∧ s8 = .int .i64 k ∧ s7 ≠ .slice none 0 0 ∧ Hid (wx.ownsRow w2.heap.size 30 2 s7 k (ruleCells ((T.take k).map foldR))) ∧ Hid (w2.grownBy wx none))
      case atStart => exact ⟨0, by omega, rfl, by simp, World.ownsRow_lit w2 #[] 0 (Nat.le_refl _) (by unfold maxLen; omega) rfl, World.grownBy_alloc w2 _ none⟩
      case round =>
        obtain ⟨k, hk, rfl, hnn, HO, HG⟩ := hrel
        obtain ⟨gb, cp, rfl, hgb, hcp⟩ := own_formN HO.out hnn
        by_cases hlt : k < T.length
        · have hzz : (k : Int) < (T.length : Int) := by omega
          obtain ⟨g', rfl⟩ : ∃ g', gk = g' + 1 := ⟨gk - 1, by omega⟩
          obtain ⟨b, off, rfl, hc1, -⟩ := HCE.out k hlt
          have HTK := Lib.hid (fold_snoc T k hlt)
          generalize (T.getD k (0, 0)).1 = za at *
          obtain ⟨zf, hzf⟩ : ∃ z, foldU za = z := ⟨_, rfl⟩
          rw [hzf] at HTK
          have CF := Lib.hid (fun W (hW : w2.grownBy W none) => implFold_is za zf W (HT.out.grown (gtrans G2.out hW)).1 hzf)
          clear hzf
          generalize ruleCells ((T.take k).map foldR) = CS at *
          have hk0 : (0 : Int) ≤ (k : Int) := by omega
          have HCC := Lib.hid hc1
          clear hc1
          go_wp2_with fail
          refine wp_region_held_drew (S := fun w' => w2.grownBy w' none) (by kernel_rfl) (gdrew HG.out) (fun hHeld => ?_)
          have JR := Lib.hid (show wr.grownBy wr.drew none from gdrew (grefl wr none))
          generalize wr.drew = V0 at hHeld JR ⊢
          refine wpAnyH_take (i := 0) (oi := ?_) (v := ?_) ?_ (by kernel_rfl) (by kernel_rfl) (by kernel_rfl) ?_ (Or.inl ⟨?_, ?_⟩) hHeld ?_
          rotate_left 2
          · rw [List.getElem?_toArray]; rfl
          · exact fun _ _ _ h => h
          · rfl
          · intro w' hSw
            go_simp
            try with_reducible rfl
          try simp only [Act.put, List.setIfInBounds_toArray, List.set_cons_zero, List.set_cons_succ]
          refine wpAnyH_take (i := 1) (oi := ?_) (v := ?_) ?_ (by kernel_rfl) (by kernel_rfl) (by kernel_rfl) ?_ (Or.inl ⟨?_, ?_⟩) hHeld ?_
          rotate_left 2
          · rw [List.getElem?_toArray]; rfl
          · exact fun _ _ _ h => h
          · rfl
          · intro w' hSw
            go_simp
            try with_reducible rfl
          try simp only [Act.put, List.setIfInBounds_toArray, List.set_cons_zero, List.set_cons_succ]
          refine wpAnyH_take (i := 2) (oi := ?_) (v := ?_) ?_ (by kernel_rfl) (by kernel_rfl) (by kernel_rfl) ?_ (Or.inl ⟨?_, ?_⟩) hHeld ?_
          rotate_left 2
          · rw [List.getElem?_toArray]; rfl
          · exact fun _ _ _ h => h
          · rfl
          · intro w' hSw
            go_simp
            try with_reducible rfl
          try simp only [Act.put, List.setIfInBounds_toArray, List.set_cons_zero, List.set_cons_succ]
          refine wpAnyH_take (i := 3) (oi := ?_) (v := ?_) ?_ (by kernel_rfl) (by kernel_rfl) (by kernel_rfl) ?_ (Or.inl ⟨?_, ?_⟩) hHeld ?_
          rotate_left 2
          · rw [List.getElem?_toArray]; rfl
          · exact fun _ _ _ h => h
          · rfl
          · intro w' hSw
            go_simp
            try with_reducible rfl
          try simp only [Act.put, List.setIfInBounds_toArray, List.set_cons_zero, List.set_cons_succ]
          refine wpAnyH_take (i := 4) (oi := ?_) (v := ?_) ?_ (by kernel_rfl) (by kernel_rfl) (by kernel_rfl) ?_ (Or.inl ⟨?_, ?_⟩) hHeld ?_
          rotate_left 2
          · rw [List.getElem?_toArray]; rfl
          · exact fun _ _ _ h => h
          · rfl
          · intro w' hSw
            go_simp
            try with_reducible rfl
          try simp only [Act.put, List.setIfInBounds_toArray, List.set_cons_zero, List.set_cons_succ]
          refine wpAnyH_take (i := 5) (oi := ?_) (v := ?_) ?_ (by kernel_rfl) (by kernel_rfl) (by kernel_rfl) ?_ (Or.inl ⟨?_, ?_⟩) hHeld ?_
          rotate_left 2
          · rw [List.getElem?_toArray]; rfl
          · exact fun _ _ _ h => h
          · rfl
          · intro w' hSw
            have hcl := hSw.cell HCC.out (by simp)
            go_simp
            try with_reducible rfl
          try simp only [Act.put, List.setIfInBounds_toArray, List.set_cons_zero, List.set_cons_succ]
          refine wpAnyH_take (i := 6) (oi := ?_) (v := ?_) ?_ (by kernel_rfl) (by kernel_rfl) (by kernel_rfl) ?_ (Or.inl ⟨?_, ?_⟩) hHeld ?_
          rotate_left 2
          · rw [List.getElem?_toArray]; rfl
          · exact fun _ _ _ h => h
          · rfl
          · intro w' hSw
            go_simp
            try with_reducible rfl
          try simp only [Act.put, List.setIfInBounds_toArray, List.set_cons_zero, List.set_cons_succ]
          refine wpAnyH_take (i := 7) (oi := ?_) (v := ?_) ?_ (by kernel_rfl) (by kernel_rfl) (by kernel_rfl) ?_ (Or.inl ⟨?_, ?_⟩) hHeld ?_
          rotate_left 2
          · rw [List.getElem?_toArray]; rfl
          · exact fun _ _ _ h => h
          · rfl
          · intro w' hSw
            go_simp
            try with_reducible rfl
          try simp only [Act.put, List.setIfInBounds_toArray, List.set_cons_zero, List.set_cons_succ]
          refine wpAnyH_take (i := 8) (oi := ?_) (v := ?_) ?_ (by kernel_rfl) (by kernel_rfl) (by kernel_rfl) ?_ (Or.inl ⟨?_, ?_⟩) hHeld ?_
          rotate_left 2
          · rw [List.getElem?_toArray]; rfl
          · exact fun _ _ _ h => h
          · rfl
          · intro w' hSw
            go_simp
            try with_reducible rfl
          try simp only [Act.put, List.setIfInBounds_toArray, List.set_cons_zero, List.set_cons_succ]
          refine wpAnyH_take (i := 9) (oi := ?_) (v := ?_) ?_ (by kernel_rfl) (by kernel_rfl) (by kernel_rfl) ?_ (Or.inl ⟨?_, ?_⟩) hHeld ?_
          rotate_left 2
          · rw [List.getElem?_toArray]; rfl
          · exact fun _ _ _ h => h
          · rfl
          · intro w' hSw
            go_simp
            try with_reducible rfl
          try simp only [Act.put, List.setIfInBounds_toArray, List.set_cons_zero, List.set_cons_succ]
          refine wpAnyH_take (i := 10) (oi := ?_) (v := ?_) ?_ (by kernel_rfl) (by kernel_rfl) (by kernel_rfl) ?_ (Or.inl ⟨?_, ?_⟩) hHeld ?_
          rotate_left 2
          · rw [List.getElem?_toArray]; rfl
          · exact fun _ _ _ h => h
          · rfl
          · intro w' hSw
            have hcl := hSw.cell HCC.out (by simp)
            go_simp
            try with_reducible rfl
          try simp only [Act.put, List.setIfInBounds_toArray, List.set_cons_zero, List.set_cons_succ]
          refine wpAnyH_ready (rs := [11]) (by kernel_rfl) (by simp) ?_
          refine AllReadyH.cons (o := ?_) ?_ (fun K hK => ?_) AllReadyH.nil
          rotate_left 1
          · rw [List.getElem?_toArray]; rfl
          go_simp
          go_wp2_with (go_at_call 38; refine (CF.out V0 hHeld).mono ?_; rintro e V1 ⟨rfl, hg1⟩)
          refine hK.out _ _ ?_ (fun hHeld => ?_)
          · exact gtrans hHeld hg1
          clear hK K
          replace JR := Lib.hid (gtrans JR.out hg1)
          clear hg1
          refine wpAnyH_take (i := 12) (oi := ?_) (v := ?_) ?_ (by kernel_rfl) (by kernel_rfl) (by kernel_rfl) ?_ (Or.inl ⟨?_, ?_⟩) hHeld ?_
          rotate_left 2
          · rw [List.getElem?_toArray]; rfl
          · exact fun _ _ _ h => h
          · rfl
          · intro w' hSw
            go_simp
            try with_reducible rfl
          try simp only [Act.put, List.setIfInBounds_toArray, List.set_cons_zero, List.set_cons_succ]
          refine wpAnyH_ready (rs := [13]) (by kernel_rfl) (by simp) ?_
          refine AllReadyH.cons (o := ?_) ?_ (fun K hK => ?_) AllReadyH.nil
          rotate_left 1
          · rw [List.getElem?_toArray]; rfl
          go_simp
          obtain ⟨bn, V2, hblk, hbn, hg2, eV, eb⟩ := rule_block V1 (.int .i32 za) (.int .i32 zf)
          rw [eV, eb]
          clear eV eb
          refine hK.out _ _ ?_ (fun hHeld => ?_)
          · exact gtrans hHeld hg2
          clear hK K
          replace JR := Lib.hid (gtrans JR.out hg2)
          clear hg2 hbn
          have HOWN := HO.out.kept JR.out (.inr (by simp [Value.ownBlock]))
          have hsz := hHeld.size
          refine wpAnyH_ready (rs := [14]) (by kernel_rfl) (by simp) ?_
          refine AllReadyH.cons (o := ?_) ?_ (fun K hK => ?_) AllReadyH.nil
          rotate_left 1
          · rw [List.getElem?_toArray]; rfl
          refine step_append_lies _ (by rfl) _ _ _ (by rfl) w2.heap.size 30 i0 _ 2 8 Tryd.underlying23 hi hz0 hz1 hz2 rfl (by omega) (.slice (some ⟨gb, 0, none⟩) k cp) k CS (by rfl) HOWN ⟨bn, 0, none⟩ 1 1 [.int .i32 za, .int .i32 zf] (by rfl) (by rfl) (World.news_of_block (cs := #[.int .i32 za, .int .i32 zf]) (t := 30) (fr := (0, 0)) hblk) (by simp [Value.oneCell']) (by omega) (by unfold maxLen; omega) (by omega) hsz _ rfl ?_
          intro g2 cap2 V3 hown' hgrow hat hlt2
          refine hK.out _ _ ?_ (fun hHeld => ?_)
          · exact gjoin hHeld hgrow hgb
          clear hK K
          try simp only [Act.put, List.setIfInBounds_toArray, List.set_cons_zero, List.set_cons_succ]
          refine wpAnyH_take (i := 15) (oi := ?_) (v := ?_) ?_ (by kernel_rfl) (by kernel_rfl) (by kernel_rfl) ?_ (Or.inl ⟨?_, ?_⟩) hHeld ?_
          rotate_left 2
          · rw [List.getElem?_toArray]; rfl
          · exact fun _ _ _ h => h
          · rfl
          · intro w' hSw
            go_simp
            try with_reducible rfl
          try simp only [Act.put, List.setIfInBounds_toArray, List.set_cons_zero, List.set_cons_succ]
          refine wpAnyH_done (by kernel_rfl) ?_ _
          have hnv : Value.slice (some ⟨g2, 0, none⟩) (k + 1) cap2 ≠ .slice none 0 0 := by simp
          rw [← HTK.out] at hown'
          have HO2 := Lib.hid hown'
          have HG2 := Lib.hid hHeld
          clear hown' hgrow HOWN HO HG HTK hat hlt2 hHeld JR hblk hsz
          go_wp2_with fail
          go_roundg g'
          case measure => omega
          case rel => exact ⟨k + 1, by omega, by first | rfl | simp, hnv, HO2.out, HG2.out⟩
        · have hzz : ¬ (k : Int) < (T.length : Int) := by omega
          obtain rfl : k = T.length := by omega
          rw [List.take_length] at HO
          have HB := Lib.hid (rules_fold HO.out)
          have G3 := Lib.hid (gtrans G2.out HG.out)
          clear HO HG HCE G2
          go_wp2_with fail
          refine (mapped_is _ (T.map foldR) true 0 s o _ HB.out (by simp; omega) HOKF.out (by decide) (by omega) (HT.out.grown G3.out).2 HO1.out).mono ?_
          rintro e w4 ⟨rfl, hg4⟩
          have G4 := Lib.hid (gtrans G3.out hg4)
          clear hg4 G3
          go_wp2_with fail
          refine (eq_call o s _ true (by omega) (by omega) (HT.out.grown G4.out) HE.out).mono ?_
          rintro e w5 ⟨rfl, hg5⟩
          have G5 := Lib.hid (gtrans G4.out hg5)
          clear hg5 G4
          go_wp2_with fail
          go_ret
          exact ⟨rfl, G5.out⟩

end Go.Proofs.YtjcbhnnlakfmaaaDoor
