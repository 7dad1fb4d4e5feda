/- The law FnTitleAscii: for characters of one byte, the title case is the upper case. Written by gen_lawbx.py. -/
import Derived.Test.YtjcbhnnlakfmaaaDoorBOut
import Derived.Test.YtjcbhnnlakfmaaaDoorReg
import Derived.Test.YtjcbhnnlakfmaaaDoorLawCase
namespace Go.Proofs.YtjcbhnnlakfmaaaDoor
open Go.Shelf Go.RowKit Go.Lib Go.Ftx

set_option maxHeartbeats 8000000 in
set_option maxRecDepth 100000 in
theorem titleAscii_walk (w : World) (l : List UInt8) (bv : Value) (hb : BytesL w bv l) (hT : CTabs w) :
    Calls Tryd.prog 9 #[bv] w (TruePost w) := by
  have hv := hb.code
  clear hb
  rcases hv.split with ⟨a, len, cap, rfl, hl, hl2⟩ | ⟨⟨a, len, cap, rfl, hl⟩, hC⟩
  · clear hv hT
    have hl' : (1048576 : Int) < (len : Int) := by omega
    go_enter Tryd.func9, Tryd.ntmps9
    go_wp2
    go_ret
    exact ⟨rfl, grefl w none⟩
  · have hl' : ¬ (1048576 : Int) < (len : Int) := by omega
    have HC := Lib.hid hC
    have HT := Lib.hid hT
    clear hv hC hT
    go_enter Tryd.func9, Tryd.ntmps9
    go_wp2_with fail
    refine (drawToTitle_any _ _ HC.out).mono ?_
    rintro e w1 ⟨s, hs, rfl, hg1⟩
    have G1 := Lib.hid hg1
    clear hg1
    clear HC
    cases has : asciiB s.data.toList with
    | false =>
      have hne : (s.toList == ([] : List UInt8)) = false := str_not (asciiB_not has)
      go_wp2_with fail
      refine (ascii_isC s _ false (by omega) has).mono ?_
      rintro e w' ⟨rfl, rfl⟩
      go_wp2_with fail
      refine (implTitle_is _ _ (⟨#[83, 79, 77, 69]⟩ : ByteArray) (by decide) (HT.out.grown G1.out) (by decide +kernel)).mono ?_
      rintro e w2 ⟨rfl, hg2⟩
      have G2 := Lib.hid (gtrans G1.out hg2)
      clear hg2 G1
      go_wp2_with fail
      go_ret
      exact ⟨rfl, G2.out⟩
    | true =>
      go_wp2_with fail
      refine (ascii_isC s _ true (by omega) has).mono ?_
      rintro e w' ⟨rfl, rfl⟩
      obtain ⟨o, ho⟩ := ex_out (mapD toTitleU s.data.toList)
      have zo := out_size toTitleU ho
      have ho2 : s.data.toList.map uppB = o.data.toList := by rw [← ho]; exact (title_ascii _ has).symm
      have Ho := Lib.hid ho
      have H2 := Lib.hid ho2
      clear ho ho2 zo has
      have hls : s.data.toList.length = s.size := (Lib.size_eq s).symm
      go_wp2_with fail
      refine wp_region_held_drew (S := fun w' => w.grownBy w' none) (by kernel_rfl) (gdrew G1.out) (fun hHeld => ?_)
      generalize w1.drew = V0 at hHeld ⊢
      clear G1
      refine wpAnyH_take (i := 0) (oi := ?_) (v := ?_) ?_ (by kernel_rfl) (by kernel_rfl) (by kernel_rfl) ?_ (Or.inl ⟨?_, ?_⟩) hHeld ?_
      rotate_left 2
      · rw [List.getElem?_toArray]; rfl
      · exact fun _ _ _ h => h
      · rfl
      · intro w' hSw
        go_simp
        try with_reducible rfl
      try simp only [Act.put, List.setIfInBounds_toArray, List.set_cons_zero, List.set_cons_succ]
      refine wpAnyH_take (i := 2) (oi := ?_) (v := ?_) ?_ (by kernel_rfl) (by kernel_rfl) (by kernel_rfl) ?_ (Or.inl ⟨?_, ?_⟩) hHeld ?_
      rotate_left 2
      · rw [List.getElem?_toArray]; rfl
      · exact fun _ _ _ h => h
      · rfl
      · intro w' hSw
        go_simp
        try with_reducible rfl
      try simp only [Act.put, List.setIfInBounds_toArray, List.set_cons_zero, List.set_cons_succ]
      refine wpAnyH_ready (rs := [1]) (by kernel_rfl) (by simp) ?_
      refine AllReadyH.cons (o := ?_) ?_ (fun K hK => ?_) AllReadyH.nil
      rotate_left 1
      · rw [List.getElem?_toArray]; rfl
      go_simp
      go_wp2_with (go_at_call 25; refine (implTitle_is s V0 o (by omega) (HT.out.grown hHeld) Ho.out).mono ?_; rintro e V1 ⟨rfl, hg⟩)
      refine hK.out _ _ ?_ (fun hHeld => ?_)
      · exact gtrans hHeld hg
      clear hK K
      clear hg
      refine wpAnyH_ready (rs := [3]) (by kernel_rfl) (by simp) ?_
      refine AllReadyH.cons (o := ?_) ?_ (fun K hK => ?_) AllReadyH.nil
      rotate_left 1
      · rw [List.getElem?_toArray]; rfl
      go_simp
      go_wp2_with (go_at_call 34; refine (upperText_is s V1 o (by omega) H2.out).mono ?_; rintro e V2 ⟨rfl, hg⟩)
      refine hK.out _ _ ?_ (fun hHeld => ?_)
      · exact gtrans hHeld hg
      clear hK K
      clear hg
      refine wpAnyH_take (i := 4) (oi := ?_) (v := ?_) ?_ (by kernel_rfl) (by kernel_rfl) (by kernel_rfl) ?_ (Or.inl ⟨?_, ?_⟩) hHeld ?_
      rotate_left 2
      · rw [List.getElem?_toArray]; rfl
      · exact fun _ _ _ h => h
      · rfl
      · intro w' hSw
        go_simp
        try with_reducible rfl
      try simp only [Act.put, List.setIfInBounds_toArray, List.set_cons_zero, List.set_cons_succ]
      refine wpAnyH_take (i := 5) (oi := ?_) (v := ?_) ?_ (by kernel_rfl) (by kernel_rfl) (by kernel_rfl) ?_ (Or.inl ⟨?_, ?_⟩) hHeld ?_
      rotate_left 2
      · rw [List.getElem?_toArray]; rfl
      · exact fun _ _ _ h => h
      · rfl
      · intro w' hSw
        go_simp
        try with_reducible rfl
      try simp only [Act.put, List.setIfInBounds_toArray, List.set_cons_zero, List.set_cons_succ]
      refine wpAnyH_take (i := 6) (oi := ?_) (v := ?_) ?_ (by kernel_rfl) (by kernel_rfl) (by kernel_rfl) ?_ (Or.inl ⟨?_, ?_⟩) hHeld ?_
      rotate_left 2
      · rw [List.getElem?_toArray]; rfl
      · exact fun _ _ _ h => h
      · rfl
      · intro w' hSw
        go_simp
        try with_reducible rfl
      try simp only [Act.put, List.setIfInBounds_toArray, List.set_cons_zero, List.set_cons_succ]
      refine wpAnyH_take (i := 10) (oi := ?_) (v := ?_) ?_ (by kernel_rfl) (by kernel_rfl) (by kernel_rfl) ?_ (Or.inl ⟨?_, ?_⟩) hHeld ?_
      rotate_left 2
      · rw [List.getElem?_toArray]; rfl
      · exact fun _ _ _ h => h
      · rfl
      · intro w' hSw
        go_simp
        try with_reducible rfl
      try simp only [Act.put, List.setIfInBounds_toArray, List.set_cons_zero, List.set_cons_succ]
      refine wpAnyH_ready (rs := [7]) (by kernel_rfl) (by simp) ?_
      refine AllReadyH.cons (o := ?_) ?_ (fun K hK => ?_) AllReadyH.nil
      rotate_left 1
      · rw [List.getElem?_toArray]; rfl
      obtain ⟨ab, cb, V3, hcb, hB, hg⟩ := to_bytes V2 s (by omega)
      go_simp
      refine hK.out _ _ ?_ (fun hHeld => ?_)
      · exact gtrans hHeld hg
      clear hK K
      clear hcb hg
      refine wpAnyH_ready (rs := [8]) (by kernel_rfl) (by simp) ?_
      refine AllReadyH.cons (o := ?_) ?_ (fun K hK => ?_) AllReadyH.nil
      rotate_left 1
      · rw [List.getElem?_toArray]; rfl
      go_simp
      go_wp2_with (go_at_call 24; refine (bytesTitle_is _ _ o V3 hB (by omega) (HT.out.grown hHeld) Ho.out).mono ?_; rintro e V4 ⟨gM, cM, rfl, hO, hg⟩)
      refine hK.out _ _ ?_ (fun hHeld => ?_)
      · exact gtrans hHeld hg
      clear hK K
      clear hg hB
      have J := Lib.hid hHeld
      refine wpAnyH_more (S' := fun w' => V4.grownBy w' none) (fun w' h => gtrans J.out h) _ _ _ _ ?_
      replace hHeld : (fun w' => V4.grownBy w' none) _ := grefl V4 none
      refine wpAnyH_take (i := 9) (oi := ?_) (v := ?_) ?_ (by kernel_rfl) (by kernel_rfl) (by kernel_rfl) ?_ (Or.inl ⟨?_, ?_⟩) hHeld ?_
      rotate_left 2
      · rw [List.getElem?_toArray]; rfl
      · exact fun _ _ _ h => h
      · rfl
      · intro w' hSw
        have hcv := hO _ hSw
        go_simp
        try with_reducible rfl
      try simp only [Act.put, List.setIfInBounds_toArray, List.set_cons_zero, List.set_cons_succ]
      clear hO
      refine wpAnyH_ready (rs := [11]) (by kernel_rfl) (by simp) ?_
      refine AllReadyH.cons (o := ?_) ?_ (fun K hK => ?_) AllReadyH.nil
      rotate_left 1
      · rw [List.getElem?_toArray]; rfl
      go_simp
      go_wp2_with (go_at_call 34; refine (upperText_is s V4 o (by omega) H2.out).mono ?_; rintro e V5 ⟨rfl, hg⟩)
      refine hK.out _ _ ?_ (fun hHeld => ?_)
      · exact gtrans hHeld hg
      clear hK K
      replace J := Lib.hid (gtrans J.out hg)
      clear hg
      refine wpAnyH_take (i := 12) (oi := ?_) (v := ?_) ?_ (by kernel_rfl) (by kernel_rfl) (by kernel_rfl) ?_ (Or.inl ⟨?_, ?_⟩) hHeld ?_
      rotate_left 2
      · rw [List.getElem?_toArray]; rfl
      · exact fun _ _ _ h => h
      · rfl
      · intro w' hSw
        go_simp
        try with_reducible rfl
      try simp only [Act.put, List.setIfInBounds_toArray, List.set_cons_zero, List.set_cons_succ]
      refine wpAnyH_take (i := 13) (oi := ?_) (v := ?_) ?_ (by kernel_rfl) (by kernel_rfl) (by kernel_rfl) ?_ (Or.inl ⟨?_, ?_⟩) hHeld ?_
      rotate_left 2
      · rw [List.getElem?_toArray]; rfl
      · exact fun _ _ _ h => h
      · rfl
      · intro w' hSw
        go_simp
        try with_reducible rfl
      try simp only [Act.put, List.setIfInBounds_toArray, List.set_cons_zero, List.set_cons_succ]
      refine wpAnyH_take (i := 14) (oi := ?_) (v := ?_) ?_ (by kernel_rfl) (by kernel_rfl) (by kernel_rfl) ?_ (Or.inl ⟨?_, ?_⟩) hHeld ?_
      rotate_left 2
      · rw [List.getElem?_toArray]; rfl
      · exact fun _ _ _ h => h
      · rfl
      · intro w' hSw
        go_simp
        try with_reducible rfl
      try simp only [Act.put, List.setIfInBounds_toArray, List.set_cons_zero, List.set_cons_succ]
      refine wpAnyH_done (by kernel_rfl) ?_ _
      go_wp2_with fail
      go_ret
      exact ⟨by first | rfl | simp, J.out⟩

end Go.Proofs.YtjcbhnnlakfmaaaDoor
