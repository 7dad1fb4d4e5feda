/- The laws FnExactToTitleBytes, FnExactToLowerBytes, FnExactToUpperBytes: the letters of a slice of bytes are mapped to their case, one by one. Written by gen_lawbx.py. -/
import Derived.Test.YtjcbhnnlakfmaaaDoorBOut
import Derived.Test.YtjcbhnnlakfmaaaDoorReg
import Derived.Test.YtjcbhnnlakfmaaaDoorLawCase2
namespace Go.Proofs.YtjcbhnnlakfmaaaDoor
open Go.Shelf Go.RowKit Go.Lib Go.Ftx

set_option maxHeartbeats 8000000 in
set_option maxRecDepth 100000 in
theorem exToTitleBytes_walk (w : World) (l : List UInt8) (sv : Value) (hB0 : BytesL w sv l) (hT : XTabs w) (hl : l.length ≤ 1048576) :
    Calls Tryd.prog 6 #[sv] w (TruePost w) := by
  obtain ⟨s, hsd⟩ : ∃ s : ByteArray, s = ⟨l.toArray⟩ := ⟨_, rfl⟩
  have hsl : s.data.toList = l := by rw [hsd]
  have hsz : s.size ≤ 1048576 := by rw [Lib.size_eq, hsl]; exact hl
  have CV := Lib.hid (show ∀ W, w.grownBy W none → (convert 22 9 sv).run Tryd.prog W = .ok (.string s) W from fun W hg => by rw [hsd]; exact bytes_str (hB0.kept hg))
  have HB := Lib.hid hB0
  have HT := Lib.hid hT
  clear hT hsd
  subst hsl
  obtain ⟨a1, n1, c1, rfl⟩ : ∃ a n c, sv = .slice a n c := by
    rcases hB0 with ⟨a, c, rfl, -⟩ | ⟨b, o, c, rfl, -⟩
    · exact ⟨_, _, _, rfl⟩
    · exact ⟨_, _, _, rfl⟩
  clear hB0
  cases hls : lettersB s.data.toList with
  | false =>
    go_enter Tryd.func6, Tryd.ntmps6
    go_wp2_with fail
    refine wp_region_held_drew (S := fun w' => w.grownBy w' none) (by kernel_rfl) (gdrew (grefl w none)) (fun hHeld => ?_)
    generalize w.drew = V0 at hHeld ⊢
    refine wpAnyH_ready (rs := [0]) (by kernel_rfl) (by simp) ?_
    refine AllReadyH.cons (o := ?_) ?_ (fun K hK => ?_) AllReadyH.nil
    rotate_left 1
    · rw [List.getElem?_toArray]; rfl
    go_simp
    go_wp2_with (go_at_call 26; refine (isLetter_is 97 V0 true (by omega) (by omega) (HT.out.grown hHeld).2 (by decide +kernel)).mono ?_; rintro e V1 ⟨rfl, hg⟩)
    refine hK.out _ _ ?_ (fun hHeld => ?_)
    · exact gtrans hHeld hg
    clear hK K
    clear hg
    refine wpAnyH_take (i := 1) (oi := ?_) (v := ?_) ?_ (by kernel_rfl) (by kernel_rfl) (by kernel_rfl) ?_ (Or.inl ⟨?_, ?_⟩) hHeld ?_
    rotate_left 2
    · rw [List.getElem?_toArray]; rfl
    · exact fun _ _ _ h => h
    · rfl
    · intro w' hSw
      go_simp
      try with_reducible rfl
    try simp only [Act.put, List.setIfInBounds_toArray, List.set_cons_zero, List.set_cons_succ]
    refine wpAnyH_take (i := 2) (oi := ?_) (v := ?_) ?_ (by kernel_rfl) (by kernel_rfl) (by kernel_rfl) ?_ (Or.inl ⟨?_, ?_⟩) hHeld ?_
    rotate_left 2
    · rw [List.getElem?_toArray]; rfl
    · exact fun _ _ _ h => h
    · rfl
    · intro w' hSw
      go_simp
      try with_reducible rfl
    try simp only [Act.put, List.setIfInBounds_toArray, List.set_cons_zero, List.set_cons_succ]
    refine wpAnyH_take (i := 3) (oi := ?_) (v := ?_) ?_ (by kernel_rfl) (by kernel_rfl) (by kernel_rfl) ?_ (Or.inl ⟨?_, ?_⟩) hHeld ?_
    rotate_left 2
    · rw [List.getElem?_toArray]; rfl
    · exact fun _ _ _ h => h
    · rfl
    · intro w' hSw
      have hcv := CV.out _ hSw
      go_simp
      try with_reducible rfl
    try simp only [Act.put, List.setIfInBounds_toArray, List.set_cons_zero, List.set_cons_succ]
    refine wpAnyH_ready (rs := [4]) (by kernel_rfl) (by simp) ?_
    refine AllReadyH.cons (o := ?_) ?_ (fun K hK => ?_) AllReadyH.nil
    rotate_left 1
    · rw [List.getElem?_toArray]; rfl
    go_simp
    go_wp2_with (go_at_call 27; refine (letters_is s V1 false (by omega) (HT.out.grown hHeld).2 (HT.out.grown hHeld).1.2 hls).mono ?_; rintro e V2 ⟨rfl, hg⟩)
    refine hK.out _ _ ?_ (fun hHeld => ?_)
    · exact gtrans hHeld hg
    clear hK K
    clear hg
    refine wpAnyH_take (i := 5) (oi := ?_) (v := ?_) ?_ (by kernel_rfl) (by kernel_rfl) (by kernel_rfl) ?_ (Or.inl ⟨?_, ?_⟩) hHeld ?_
    rotate_left 2
    · rw [List.getElem?_toArray]; rfl
    · exact fun _ _ _ h => h
    · rfl
    · intro w' hSw
      go_simp
      try with_reducible rfl
    try simp only [Act.put, List.setIfInBounds_toArray, List.set_cons_zero, List.set_cons_succ]
    refine wpAnyH_take (i := 6) (oi := ?_) (v := ?_) ?_ (by kernel_rfl) (by kernel_rfl) (by kernel_rfl) ?_ (Or.inl ⟨?_, ?_⟩) hHeld ?_
    rotate_left 2
    · rw [List.getElem?_toArray]; rfl
    · exact fun _ _ _ h => h
    · rfl
    · intro w' hSw
      go_simp
      try with_reducible rfl
    try simp only [Act.put, List.setIfInBounds_toArray, List.set_cons_zero, List.set_cons_succ]
    refine wpAnyH_take (i := 7) (oi := ?_) (v := undef) ?_ (by kernel_rfl) (by kernel_rfl) (by kernel_rfl) ?_ (Or.inr ⟨?_, rfl⟩) hHeld ?_
    rotate_left 1
    · rw [List.getElem?_toArray]; rfl
    · exact fun _ _ _ h => h
    · rfl
    try simp only [Act.put, List.setIfInBounds_toArray, List.set_cons_zero, List.set_cons_succ]
    refine wpAnyH_take (i := 8) (oi := ?_) (v := undef) ?_ (by kernel_rfl) (by kernel_rfl) (by kernel_rfl) ?_ (Or.inr ⟨?_, rfl⟩) hHeld ?_
    rotate_left 1
    · rw [List.getElem?_toArray]; rfl
    · exact fun _ _ _ h => h
    · rfl
    try simp only [Act.put, List.setIfInBounds_toArray, List.set_cons_zero, List.set_cons_succ]
    refine wpAnyH_take (i := 9) (oi := ?_) (v := undef) ?_ (by kernel_rfl) (by kernel_rfl) (by kernel_rfl) ?_ (Or.inr ⟨?_, rfl⟩) hHeld ?_
    rotate_left 1
    · rw [List.getElem?_toArray]; rfl
    · exact fun _ _ _ h => h
    · rfl
    try simp only [Act.put, List.setIfInBounds_toArray, List.set_cons_zero, List.set_cons_succ]
    refine wpAnyH_take (i := 10) (oi := ?_) (v := undef) ?_ (by kernel_rfl) (by kernel_rfl) (by kernel_rfl) ?_ (Or.inr ⟨?_, rfl⟩) hHeld ?_
    rotate_left 1
    · rw [List.getElem?_toArray]; rfl
    · exact fun _ _ _ h => h
    · rfl
    try simp only [Act.put, List.setIfInBounds_toArray, List.set_cons_zero, List.set_cons_succ]
    refine wpAnyH_take (i := 11) (oi := ?_) (v := undef) ?_ (by kernel_rfl) (by kernel_rfl) (by kernel_rfl) ?_ (Or.inr ⟨?_, rfl⟩) hHeld ?_
    rotate_left 1
    · rw [List.getElem?_toArray]; rfl
    · exact fun _ _ _ h => h
    · rfl
    try simp only [Act.put, List.setIfInBounds_toArray, List.set_cons_zero, List.set_cons_succ]
    refine wpAnyH_take (i := 12) (oi := ?_) (v := undef) ?_ (by kernel_rfl) (by kernel_rfl) (by kernel_rfl) ?_ (Or.inr ⟨?_, rfl⟩) hHeld ?_
    rotate_left 1
    · rw [List.getElem?_toArray]; rfl
    · exact fun _ _ _ h => h
    · rfl
    try simp only [Act.put, List.setIfInBounds_toArray, List.set_cons_zero, List.set_cons_succ]
    refine wpAnyH_take (i := 13) (oi := ?_) (v := undef) ?_ (by kernel_rfl) (by kernel_rfl) (by kernel_rfl) ?_ (Or.inr ⟨?_, rfl⟩) hHeld ?_
    rotate_left 1
    · rw [List.getElem?_toArray]; rfl
    · exact fun _ _ _ h => h
    · rfl
    try simp only [Act.put, List.setIfInBounds_toArray, List.set_cons_zero, List.set_cons_succ]
    refine wpAnyH_take (i := 14) (oi := ?_) (v := ?_) ?_ (by kernel_rfl) (by kernel_rfl) (by kernel_rfl) ?_ (Or.inl ⟨?_, ?_⟩) hHeld ?_
    rotate_left 2
    · rw [List.getElem?_toArray]; rfl
    · exact fun _ _ _ h => h
    · rfl
    · intro w' hSw
      go_simp
      try with_reducible rfl
    try simp only [Act.put, List.setIfInBounds_toArray, List.set_cons_zero, List.set_cons_succ]
    refine wpAnyH_take (i := 15) (oi := ?_) (v := ?_) ?_ (by kernel_rfl) (by kernel_rfl) (by kernel_rfl) ?_ (Or.inl ⟨?_, ?_⟩) hHeld ?_
    rotate_left 2
    · rw [List.getElem?_toArray]; rfl
    · exact fun _ _ _ h => h
    · rfl
    · intro w' hSw
      go_simp
      try with_reducible rfl
    try simp only [Act.put, List.setIfInBounds_toArray, List.set_cons_zero, List.set_cons_succ]
    refine wpAnyH_take (i := 16) (oi := ?_) (v := ?_) ?_ (by kernel_rfl) (by kernel_rfl) (by kernel_rfl) ?_ (Or.inl ⟨?_, ?_⟩) hHeld ?_
    rotate_left 2
    · rw [List.getElem?_toArray]; rfl
    · exact fun _ _ _ h => h
    · rfl
    · intro w' hSw
      go_simp
      try with_reducible rfl
    try simp only [Act.put, List.setIfInBounds_toArray, List.set_cons_zero, List.set_cons_succ]
    refine wpAnyH_done (by kernel_rfl) ?_ _
    go_wp2_with fail
    go_ret
    exact ⟨by first | rfl | simp, hHeld⟩
  | true =>
    obtain ⟨o, ho⟩ := ex_out (mapD toTitleU s.data.toList)
    have zo := out_size toTitleU ho
    have Ho := Lib.hid ho
    clear ho zo
    go_enter Tryd.func6, Tryd.ntmps6
    go_wp2_with fail
    refine wp_region_held_drew (S := fun w' => w.grownBy w' none) (by kernel_rfl) (gdrew (grefl w none)) (fun hHeld => ?_)
    generalize w.drew = V0 at hHeld ⊢
    refine wpAnyH_ready (rs := [0]) (by kernel_rfl) (by simp) ?_
    refine AllReadyH.cons (o := ?_) ?_ (fun K hK => ?_) AllReadyH.nil
    rotate_left 1
    · rw [List.getElem?_toArray]; rfl
    go_simp
    go_wp2_with (go_at_call 26; refine (isLetter_is 97 V0 true (by omega) (by omega) (HT.out.grown hHeld).2 (by decide +kernel)).mono ?_; rintro e V1 ⟨rfl, hg⟩)
    refine hK.out _ _ ?_ (fun hHeld => ?_)
    · exact gtrans hHeld hg
    clear hK K
    clear hg
    refine wpAnyH_take (i := 1) (oi := ?_) (v := ?_) ?_ (by kernel_rfl) (by kernel_rfl) (by kernel_rfl) ?_ (Or.inl ⟨?_, ?_⟩) hHeld ?_
    rotate_left 2
    · rw [List.getElem?_toArray]; rfl
    · exact fun _ _ _ h => h
    · rfl
    · intro w' hSw
      go_simp
      try with_reducible rfl
    try simp only [Act.put, List.setIfInBounds_toArray, List.set_cons_zero, List.set_cons_succ]
    refine wpAnyH_take (i := 2) (oi := ?_) (v := ?_) ?_ (by kernel_rfl) (by kernel_rfl) (by kernel_rfl) ?_ (Or.inl ⟨?_, ?_⟩) hHeld ?_
    rotate_left 2
    · rw [List.getElem?_toArray]; rfl
    · exact fun _ _ _ h => h
    · rfl
    · intro w' hSw
      go_simp
      try with_reducible rfl
    try simp only [Act.put, List.setIfInBounds_toArray, List.set_cons_zero, List.set_cons_succ]
    refine wpAnyH_take (i := 3) (oi := ?_) (v := ?_) ?_ (by kernel_rfl) (by kernel_rfl) (by kernel_rfl) ?_ (Or.inl ⟨?_, ?_⟩) hHeld ?_
    rotate_left 2
    · rw [List.getElem?_toArray]; rfl
    · exact fun _ _ _ h => h
    · rfl
    · intro w' hSw
      have hcv := CV.out _ hSw
      go_simp
      try with_reducible rfl
    try simp only [Act.put, List.setIfInBounds_toArray, List.set_cons_zero, List.set_cons_succ]
    refine wpAnyH_ready (rs := [4]) (by kernel_rfl) (by simp) ?_
    refine AllReadyH.cons (o := ?_) ?_ (fun K hK => ?_) AllReadyH.nil
    rotate_left 1
    · rw [List.getElem?_toArray]; rfl
    go_simp
    go_wp2_with (go_at_call 27; refine (letters_is s V1 true (by omega) (HT.out.grown hHeld).2 (HT.out.grown hHeld).1.2 hls).mono ?_; rintro e V2 ⟨rfl, hg⟩)
    refine hK.out _ _ ?_ (fun hHeld => ?_)
    · exact gtrans hHeld hg
    clear hK K
    clear hg
    refine wpAnyH_take (i := 5) (oi := ?_) (v := ?_) ?_ (by kernel_rfl) (by kernel_rfl) (by kernel_rfl) ?_ (Or.inl ⟨?_, ?_⟩) hHeld ?_
    rotate_left 2
    · rw [List.getElem?_toArray]; rfl
    · exact fun _ _ _ h => h
    · rfl
    · intro w' hSw
      go_simp
      try with_reducible rfl
    try simp only [Act.put, List.setIfInBounds_toArray, List.set_cons_zero, List.set_cons_succ]
    refine wpAnyH_take (i := 6) (oi := ?_) (v := ?_) ?_ (by kernel_rfl) (by kernel_rfl) (by kernel_rfl) ?_ (Or.inl ⟨?_, ?_⟩) hHeld ?_
    rotate_left 2
    · rw [List.getElem?_toArray]; rfl
    · exact fun _ _ _ h => h
    · rfl
    · intro w' hSw
      go_simp
      try with_reducible rfl
    try simp only [Act.put, List.setIfInBounds_toArray, List.set_cons_zero, List.set_cons_succ]
    refine wpAnyH_take (i := 7) (oi := ?_) (v := ?_) ?_ (by kernel_rfl) (by kernel_rfl) (by kernel_rfl) ?_ (Or.inl ⟨?_, ?_⟩) hHeld ?_
    rotate_left 2
    · rw [List.getElem?_toArray]; rfl
    · exact fun _ _ _ h => h
    · rfl
    · intro w' hSw
      go_simp
      try with_reducible rfl
    try simp only [Act.put, List.setIfInBounds_toArray, List.set_cons_zero, List.set_cons_succ]
    refine wpAnyH_take (i := 10) (oi := ?_) (v := ?_) ?_ (by kernel_rfl) (by kernel_rfl) (by kernel_rfl) ?_ (Or.inl ⟨?_, ?_⟩) hHeld ?_
    rotate_left 2
    · rw [List.getElem?_toArray]; rfl
    · exact fun _ _ _ h => h
    · rfl
    · intro w' hSw
      go_simp
      try with_reducible rfl
    try simp only [Act.put, List.setIfInBounds_toArray, List.set_cons_zero, List.set_cons_succ]
    refine wpAnyH_take (i := 11) (oi := ?_) (v := ?_) ?_ (by kernel_rfl) (by kernel_rfl) (by kernel_rfl) ?_ (Or.inl ⟨?_, ?_⟩) hHeld ?_
    rotate_left 2
    · rw [List.getElem?_toArray]; rfl
    · exact fun _ _ _ h => h
    · rfl
    · intro w' hSw
      have hcv := CV.out _ hSw
      go_simp
      try with_reducible rfl
    try simp only [Act.put, List.setIfInBounds_toArray, List.set_cons_zero, List.set_cons_succ]
    refine wpAnyH_ready (rs := [8]) (by kernel_rfl) (by simp) ?_
    refine AllReadyH.cons (o := ?_) ?_ (fun K hK => ?_) AllReadyH.nil
    rotate_left 1
    · rw [List.getElem?_toArray]; rfl
    go_simp
    go_wp2_with (go_at_call 24; refine (bytesTitle_is _ _ o V2 (HB.out.kept hHeld) (by omega) (HT.out.grown hHeld).1 Ho.out).mono ?_; rintro e V3 ⟨gM, cM, rfl, hO, hg⟩)
    refine hK.out _ _ ?_ (fun hHeld => ?_)
    · exact gtrans hHeld hg
    clear hK K
    clear hg
    have J := Lib.hid hHeld
    refine wpAnyH_more (S' := fun w' => V3.grownBy w' none) (fun w' h => gtrans J.out h) _ _ _ _ ?_
    replace hHeld : (fun w' => V3.grownBy w' none) _ := grefl V3 none
    refine wpAnyH_take (i := 9) (oi := ?_) (v := ?_) ?_ (by kernel_rfl) (by kernel_rfl) (by kernel_rfl) ?_ (Or.inl ⟨?_, ?_⟩) hHeld ?_
    rotate_left 2
    · rw [List.getElem?_toArray]; rfl
    · exact fun _ _ _ h => h
    · rfl
    · intro w' hSw
      have hcv := hO _ hSw
      go_simp
      try with_reducible rfl
    try simp only [Act.put, List.setIfInBounds_toArray, List.set_cons_zero, List.set_cons_succ]
    clear hO
    refine wpAnyH_ready (rs := [12]) (by kernel_rfl) (by simp) ?_
    refine AllReadyH.cons (o := ?_) ?_ (fun K hK => ?_) AllReadyH.nil
    rotate_left 1
    · rw [List.getElem?_toArray]; rfl
    go_simp
    go_wp2_with (go_at_call 28; refine (turnedTitle_is s V3 o (by omega) (HT.out.grown J.out).1 Ho.out).mono ?_; rintro e V4 ⟨rfl, hg⟩)
    refine hK.out _ _ ?_ (fun hHeld => ?_)
    · exact gtrans hHeld hg
    clear hK K
    replace J := Lib.hid (gtrans J.out hg)
    clear hg
    refine wpAnyH_take (i := 13) (oi := ?_) (v := ?_) ?_ (by kernel_rfl) (by kernel_rfl) (by kernel_rfl) ?_ (Or.inl ⟨?_, ?_⟩) hHeld ?_
    rotate_left 2
    · rw [List.getElem?_toArray]; rfl
    · exact fun _ _ _ h => h
    · rfl
    · intro w' hSw
      go_simp
      try with_reducible rfl
    try simp only [Act.put, List.setIfInBounds_toArray, List.set_cons_zero, List.set_cons_succ]
    refine wpAnyH_take (i := 14) (oi := ?_) (v := ?_) ?_ (by kernel_rfl) (by kernel_rfl) (by kernel_rfl) ?_ (Or.inl ⟨?_, ?_⟩) hHeld ?_
    rotate_left 2
    · rw [List.getElem?_toArray]; rfl
    · exact fun _ _ _ h => h
    · rfl
    · intro w' hSw
      go_simp
      try with_reducible rfl
    try simp only [Act.put, List.setIfInBounds_toArray, List.set_cons_zero, List.set_cons_succ]
    refine wpAnyH_take (i := 15) (oi := ?_) (v := ?_) ?_ (by kernel_rfl) (by kernel_rfl) (by kernel_rfl) ?_ (Or.inl ⟨?_, ?_⟩) hHeld ?_
    rotate_left 2
    · rw [List.getElem?_toArray]; rfl
    · exact fun _ _ _ h => h
    · rfl
    · intro w' hSw
      go_simp
      try with_reducible rfl
    try simp only [Act.put, List.setIfInBounds_toArray, List.set_cons_zero, List.set_cons_succ]
    refine wpAnyH_take (i := 16) (oi := ?_) (v := ?_) ?_ (by kernel_rfl) (by kernel_rfl) (by kernel_rfl) ?_ (Or.inl ⟨?_, ?_⟩) hHeld ?_
    rotate_left 2
    · rw [List.getElem?_toArray]; rfl
    · exact fun _ _ _ h => h
    · rfl
    · intro w' hSw
      go_simp
      try with_reducible rfl
    try simp only [Act.put, List.setIfInBounds_toArray, List.set_cons_zero, List.set_cons_succ]
    refine wpAnyH_done (by kernel_rfl) ?_ _
    go_wp2_with fail
    go_ret
    exact ⟨by first | rfl | simp, J.out⟩

set_option maxHeartbeats 8000000 in
set_option maxRecDepth 100000 in
theorem exToLowerBytes_walk (w : World) (l : List UInt8) (sv : Value) (hB0 : BytesL w sv l) (hT : XTabs w) (hl : l.length ≤ 1048576) :
    Calls Tryd.prog 7 #[sv] w (TruePost w) := by
  obtain ⟨s, hsd⟩ : ∃ s : ByteArray, s = ⟨l.toArray⟩ := ⟨_, rfl⟩
  have hsl : s.data.toList = l := by rw [hsd]
  have hsz : s.size ≤ 1048576 := by rw [Lib.size_eq, hsl]; exact hl
  have CV := Lib.hid (show ∀ W, w.grownBy W none → (convert 22 9 sv).run Tryd.prog W = .ok (.string s) W from fun W hg => by rw [hsd]; exact bytes_str (hB0.kept hg))
  have HB := Lib.hid hB0
  have HT := Lib.hid hT
  clear hT hsd
  subst hsl
  obtain ⟨a1, n1, c1, rfl⟩ : ∃ a n c, sv = .slice a n c := by
    rcases hB0 with ⟨a, c, rfl, -⟩ | ⟨b, o, c, rfl, -⟩
    · exact ⟨_, _, _, rfl⟩
    · exact ⟨_, _, _, rfl⟩
  clear hB0
  cases hls : lettersB s.data.toList with
  | false =>
    go_enter Tryd.func7, Tryd.ntmps7
    go_wp2_with fail
    refine wp_region_held_drew (S := fun w' => w.grownBy w' none) (by kernel_rfl) (gdrew (grefl w none)) (fun hHeld => ?_)
    generalize w.drew = V0 at hHeld ⊢
    refine wpAnyH_ready (rs := [0]) (by kernel_rfl) (by simp) ?_
    refine AllReadyH.cons (o := ?_) ?_ (fun K hK => ?_) AllReadyH.nil
    rotate_left 1
    · rw [List.getElem?_toArray]; rfl
    go_simp
    go_wp2_with (go_at_call 26; refine (isLetter_is 97 V0 true (by omega) (by omega) (HT.out.grown hHeld).2 (by decide +kernel)).mono ?_; rintro e V1 ⟨rfl, hg⟩)
    refine hK.out _ _ ?_ (fun hHeld => ?_)
    · exact gtrans hHeld hg
    clear hK K
    clear hg
    refine wpAnyH_take (i := 1) (oi := ?_) (v := ?_) ?_ (by kernel_rfl) (by kernel_rfl) (by kernel_rfl) ?_ (Or.inl ⟨?_, ?_⟩) hHeld ?_
    rotate_left 2
    · rw [List.getElem?_toArray]; rfl
    · exact fun _ _ _ h => h
    · rfl
    · intro w' hSw
      go_simp
      try with_reducible rfl
    try simp only [Act.put, List.setIfInBounds_toArray, List.set_cons_zero, List.set_cons_succ]
    refine wpAnyH_take (i := 2) (oi := ?_) (v := ?_) ?_ (by kernel_rfl) (by kernel_rfl) (by kernel_rfl) ?_ (Or.inl ⟨?_, ?_⟩) hHeld ?_
    rotate_left 2
    · rw [List.getElem?_toArray]; rfl
    · exact fun _ _ _ h => h
    · rfl
    · intro w' hSw
      go_simp
      try with_reducible rfl
    try simp only [Act.put, List.setIfInBounds_toArray, List.set_cons_zero, List.set_cons_succ]
    refine wpAnyH_take (i := 3) (oi := ?_) (v := ?_) ?_ (by kernel_rfl) (by kernel_rfl) (by kernel_rfl) ?_ (Or.inl ⟨?_, ?_⟩) hHeld ?_
    rotate_left 2
    · rw [List.getElem?_toArray]; rfl
    · exact fun _ _ _ h => h
    · rfl
    · intro w' hSw
      have hcv := CV.out _ hSw
      go_simp
      try with_reducible rfl
    try simp only [Act.put, List.setIfInBounds_toArray, List.set_cons_zero, List.set_cons_succ]
    refine wpAnyH_ready (rs := [4]) (by kernel_rfl) (by simp) ?_
    refine AllReadyH.cons (o := ?_) ?_ (fun K hK => ?_) AllReadyH.nil
    rotate_left 1
    · rw [List.getElem?_toArray]; rfl
    go_simp
    go_wp2_with (go_at_call 27; refine (letters_is s V1 false (by omega) (HT.out.grown hHeld).2 (HT.out.grown hHeld).1.2 hls).mono ?_; rintro e V2 ⟨rfl, hg⟩)
    refine hK.out _ _ ?_ (fun hHeld => ?_)
    · exact gtrans hHeld hg
    clear hK K
    clear hg
    refine wpAnyH_take (i := 5) (oi := ?_) (v := ?_) ?_ (by kernel_rfl) (by kernel_rfl) (by kernel_rfl) ?_ (Or.inl ⟨?_, ?_⟩) hHeld ?_
    rotate_left 2
    · rw [List.getElem?_toArray]; rfl
    · exact fun _ _ _ h => h
    · rfl
    · intro w' hSw
      go_simp
      try with_reducible rfl
    try simp only [Act.put, List.setIfInBounds_toArray, List.set_cons_zero, List.set_cons_succ]
    refine wpAnyH_take (i := 6) (oi := ?_) (v := ?_) ?_ (by kernel_rfl) (by kernel_rfl) (by kernel_rfl) ?_ (Or.inl ⟨?_, ?_⟩) hHeld ?_
    rotate_left 2
    · rw [List.getElem?_toArray]; rfl
    · exact fun _ _ _ h => h
    · rfl
    · intro w' hSw
      go_simp
      try with_reducible rfl
    try simp only [Act.put, List.setIfInBounds_toArray, List.set_cons_zero, List.set_cons_succ]
    refine wpAnyH_take (i := 7) (oi := ?_) (v := undef) ?_ (by kernel_rfl) (by kernel_rfl) (by kernel_rfl) ?_ (Or.inr ⟨?_, rfl⟩) hHeld ?_
    rotate_left 1
    · rw [List.getElem?_toArray]; rfl
    · exact fun _ _ _ h => h
    · rfl
    try simp only [Act.put, List.setIfInBounds_toArray, List.set_cons_zero, List.set_cons_succ]
    refine wpAnyH_take (i := 8) (oi := ?_) (v := undef) ?_ (by kernel_rfl) (by kernel_rfl) (by kernel_rfl) ?_ (Or.inr ⟨?_, rfl⟩) hHeld ?_
    rotate_left 1
    · rw [List.getElem?_toArray]; rfl
    · exact fun _ _ _ h => h
    · rfl
    try simp only [Act.put, List.setIfInBounds_toArray, List.set_cons_zero, List.set_cons_succ]
    refine wpAnyH_take (i := 9) (oi := ?_) (v := undef) ?_ (by kernel_rfl) (by kernel_rfl) (by kernel_rfl) ?_ (Or.inr ⟨?_, rfl⟩) hHeld ?_
    rotate_left 1
    · rw [List.getElem?_toArray]; rfl
    · exact fun _ _ _ h => h
    · rfl
    try simp only [Act.put, List.setIfInBounds_toArray, List.set_cons_zero, List.set_cons_succ]
    refine wpAnyH_take (i := 10) (oi := ?_) (v := undef) ?_ (by kernel_rfl) (by kernel_rfl) (by kernel_rfl) ?_ (Or.inr ⟨?_, rfl⟩) hHeld ?_
    rotate_left 1
    · rw [List.getElem?_toArray]; rfl
    · exact fun _ _ _ h => h
    · rfl
    try simp only [Act.put, List.setIfInBounds_toArray, List.set_cons_zero, List.set_cons_succ]
    refine wpAnyH_take (i := 11) (oi := ?_) (v := undef) ?_ (by kernel_rfl) (by kernel_rfl) (by kernel_rfl) ?_ (Or.inr ⟨?_, rfl⟩) hHeld ?_
    rotate_left 1
    · rw [List.getElem?_toArray]; rfl
    · exact fun _ _ _ h => h
    · rfl
    try simp only [Act.put, List.setIfInBounds_toArray, List.set_cons_zero, List.set_cons_succ]
    refine wpAnyH_take (i := 12) (oi := ?_) (v := undef) ?_ (by kernel_rfl) (by kernel_rfl) (by kernel_rfl) ?_ (Or.inr ⟨?_, rfl⟩) hHeld ?_
    rotate_left 1
    · rw [List.getElem?_toArray]; rfl
    · exact fun _ _ _ h => h
    · rfl
    try simp only [Act.put, List.setIfInBounds_toArray, List.set_cons_zero, List.set_cons_succ]
    refine wpAnyH_take (i := 13) (oi := ?_) (v := undef) ?_ (by kernel_rfl) (by kernel_rfl) (by kernel_rfl) ?_ (Or.inr ⟨?_, rfl⟩) hHeld ?_
    rotate_left 1
    · rw [List.getElem?_toArray]; rfl
    · exact fun _ _ _ h => h
    · rfl
    try simp only [Act.put, List.setIfInBounds_toArray, List.set_cons_zero, List.set_cons_succ]
    refine wpAnyH_take (i := 14) (oi := ?_) (v := ?_) ?_ (by kernel_rfl) (by kernel_rfl) (by kernel_rfl) ?_ (Or.inl ⟨?_, ?_⟩) hHeld ?_
    rotate_left 2
    · rw [List.getElem?_toArray]; rfl
    · exact fun _ _ _ h => h
    · rfl
    · intro w' hSw
      go_simp
      try with_reducible rfl
    try simp only [Act.put, List.setIfInBounds_toArray, List.set_cons_zero, List.set_cons_succ]
    refine wpAnyH_take (i := 15) (oi := ?_) (v := ?_) ?_ (by kernel_rfl) (by kernel_rfl) (by kernel_rfl) ?_ (Or.inl ⟨?_, ?_⟩) hHeld ?_
    rotate_left 2
    · rw [List.getElem?_toArray]; rfl
    · exact fun _ _ _ h => h
    · rfl
    · intro w' hSw
      go_simp
      try with_reducible rfl
    try simp only [Act.put, List.setIfInBounds_toArray, List.set_cons_zero, List.set_cons_succ]
    refine wpAnyH_take (i := 16) (oi := ?_) (v := ?_) ?_ (by kernel_rfl) (by kernel_rfl) (by kernel_rfl) ?_ (Or.inl ⟨?_, ?_⟩) hHeld ?_
    rotate_left 2
    · rw [List.getElem?_toArray]; rfl
    · exact fun _ _ _ h => h
    · rfl
    · intro w' hSw
      go_simp
      try with_reducible rfl
    try simp only [Act.put, List.setIfInBounds_toArray, List.set_cons_zero, List.set_cons_succ]
    refine wpAnyH_done (by kernel_rfl) ?_ _
    go_wp2_with fail
    go_ret
    exact ⟨by first | rfl | simp, hHeld⟩
  | true =>
    obtain ⟨o, ho⟩ := ex_out (mapD toLowerU s.data.toList)
    have zo := out_size toLowerU ho
    have Ho := Lib.hid ho
    clear ho zo
    go_enter Tryd.func7, Tryd.ntmps7
    go_wp2_with fail
    refine wp_region_held_drew (S := fun w' => w.grownBy w' none) (by kernel_rfl) (gdrew (grefl w none)) (fun hHeld => ?_)
    generalize w.drew = V0 at hHeld ⊢
    refine wpAnyH_ready (rs := [0]) (by kernel_rfl) (by simp) ?_
    refine AllReadyH.cons (o := ?_) ?_ (fun K hK => ?_) AllReadyH.nil
    rotate_left 1
    · rw [List.getElem?_toArray]; rfl
    go_simp
    go_wp2_with (go_at_call 26; refine (isLetter_is 97 V0 true (by omega) (by omega) (HT.out.grown hHeld).2 (by decide +kernel)).mono ?_; rintro e V1 ⟨rfl, hg⟩)
    refine hK.out _ _ ?_ (fun hHeld => ?_)
    · exact gtrans hHeld hg
    clear hK K
    clear hg
    refine wpAnyH_take (i := 1) (oi := ?_) (v := ?_) ?_ (by kernel_rfl) (by kernel_rfl) (by kernel_rfl) ?_ (Or.inl ⟨?_, ?_⟩) hHeld ?_
    rotate_left 2
    · rw [List.getElem?_toArray]; rfl
    · exact fun _ _ _ h => h
    · rfl
    · intro w' hSw
      go_simp
      try with_reducible rfl
    try simp only [Act.put, List.setIfInBounds_toArray, List.set_cons_zero, List.set_cons_succ]
    refine wpAnyH_take (i := 2) (oi := ?_) (v := ?_) ?_ (by kernel_rfl) (by kernel_rfl) (by kernel_rfl) ?_ (Or.inl ⟨?_, ?_⟩) hHeld ?_
    rotate_left 2
    · rw [List.getElem?_toArray]; rfl
    · exact fun _ _ _ h => h
    · rfl
    · intro w' hSw
      go_simp
      try with_reducible rfl
    try simp only [Act.put, List.setIfInBounds_toArray, List.set_cons_zero, List.set_cons_succ]
    refine wpAnyH_take (i := 3) (oi := ?_) (v := ?_) ?_ (by kernel_rfl) (by kernel_rfl) (by kernel_rfl) ?_ (Or.inl ⟨?_, ?_⟩) hHeld ?_
    rotate_left 2
    · rw [List.getElem?_toArray]; rfl
    · exact fun _ _ _ h => h
    · rfl
    · intro w' hSw
      have hcv := CV.out _ hSw
      go_simp
      try with_reducible rfl
    try simp only [Act.put, List.setIfInBounds_toArray, List.set_cons_zero, List.set_cons_succ]
    refine wpAnyH_ready (rs := [4]) (by kernel_rfl) (by simp) ?_
    refine AllReadyH.cons (o := ?_) ?_ (fun K hK => ?_) AllReadyH.nil
    rotate_left 1
    · rw [List.getElem?_toArray]; rfl
    go_simp
    go_wp2_with (go_at_call 27; refine (letters_is s V1 true (by omega) (HT.out.grown hHeld).2 (HT.out.grown hHeld).1.2 hls).mono ?_; rintro e V2 ⟨rfl, hg⟩)
    refine hK.out _ _ ?_ (fun hHeld => ?_)
    · exact gtrans hHeld hg
    clear hK K
    clear hg
    refine wpAnyH_take (i := 5) (oi := ?_) (v := ?_) ?_ (by kernel_rfl) (by kernel_rfl) (by kernel_rfl) ?_ (Or.inl ⟨?_, ?_⟩) hHeld ?_
    rotate_left 2
    · rw [List.getElem?_toArray]; rfl
    · exact fun _ _ _ h => h
    · rfl
    · intro w' hSw
      go_simp
      try with_reducible rfl
    try simp only [Act.put, List.setIfInBounds_toArray, List.set_cons_zero, List.set_cons_succ]
    refine wpAnyH_take (i := 6) (oi := ?_) (v := ?_) ?_ (by kernel_rfl) (by kernel_rfl) (by kernel_rfl) ?_ (Or.inl ⟨?_, ?_⟩) hHeld ?_
    rotate_left 2
    · rw [List.getElem?_toArray]; rfl
    · exact fun _ _ _ h => h
    · rfl
    · intro w' hSw
      go_simp
      try with_reducible rfl
    try simp only [Act.put, List.setIfInBounds_toArray, List.set_cons_zero, List.set_cons_succ]
    refine wpAnyH_take (i := 7) (oi := ?_) (v := ?_) ?_ (by kernel_rfl) (by kernel_rfl) (by kernel_rfl) ?_ (Or.inl ⟨?_, ?_⟩) hHeld ?_
    rotate_left 2
    · rw [List.getElem?_toArray]; rfl
    · exact fun _ _ _ h => h
    · rfl
    · intro w' hSw
      go_simp
      try with_reducible rfl
    try simp only [Act.put, List.setIfInBounds_toArray, List.set_cons_zero, List.set_cons_succ]
    refine wpAnyH_take (i := 10) (oi := ?_) (v := ?_) ?_ (by kernel_rfl) (by kernel_rfl) (by kernel_rfl) ?_ (Or.inl ⟨?_, ?_⟩) hHeld ?_
    rotate_left 2
    · rw [List.getElem?_toArray]; rfl
    · exact fun _ _ _ h => h
    · rfl
    · intro w' hSw
      go_simp
      try with_reducible rfl
    try simp only [Act.put, List.setIfInBounds_toArray, List.set_cons_zero, List.set_cons_succ]
    refine wpAnyH_take (i := 11) (oi := ?_) (v := ?_) ?_ (by kernel_rfl) (by kernel_rfl) (by kernel_rfl) ?_ (Or.inl ⟨?_, ?_⟩) hHeld ?_
    rotate_left 2
    · rw [List.getElem?_toArray]; rfl
    · exact fun _ _ _ h => h
    · rfl
    · intro w' hSw
      have hcv := CV.out _ hSw
      go_simp
      try with_reducible rfl
    try simp only [Act.put, List.setIfInBounds_toArray, List.set_cons_zero, List.set_cons_succ]
    refine wpAnyH_ready (rs := [8]) (by kernel_rfl) (by simp) ?_
    refine AllReadyH.cons (o := ?_) ?_ (fun K hK => ?_) AllReadyH.nil
    rotate_left 1
    · rw [List.getElem?_toArray]; rfl
    go_simp
    go_wp2_with (go_at_call 22; refine (bytesLower_is _ _ o V2 (HB.out.kept hHeld) (by omega) (HT.out.grown hHeld).1 Ho.out).mono ?_; rintro e V3 ⟨gM, cM, rfl, hO, hg⟩)
    refine hK.out _ _ ?_ (fun hHeld => ?_)
    · exact gtrans hHeld hg
    clear hK K
    clear hg
    have J := Lib.hid hHeld
    refine wpAnyH_more (S' := fun w' => V3.grownBy w' none) (fun w' h => gtrans J.out h) _ _ _ _ ?_
    replace hHeld : (fun w' => V3.grownBy w' none) _ := grefl V3 none
    refine wpAnyH_take (i := 9) (oi := ?_) (v := ?_) ?_ (by kernel_rfl) (by kernel_rfl) (by kernel_rfl) ?_ (Or.inl ⟨?_, ?_⟩) hHeld ?_
    rotate_left 2
    · rw [List.getElem?_toArray]; rfl
    · exact fun _ _ _ h => h
    · rfl
    · intro w' hSw
      have hcv := hO _ hSw
      go_simp
      try with_reducible rfl
    try simp only [Act.put, List.setIfInBounds_toArray, List.set_cons_zero, List.set_cons_succ]
    clear hO
    refine wpAnyH_ready (rs := [12]) (by kernel_rfl) (by simp) ?_
    refine AllReadyH.cons (o := ?_) ?_ (fun K hK => ?_) AllReadyH.nil
    rotate_left 1
    · rw [List.getElem?_toArray]; rfl
    go_simp
    go_wp2_with (go_at_call 28; refine (turnedLower_is s V3 o (by omega) (HT.out.grown J.out).1 Ho.out).mono ?_; rintro e V4 ⟨rfl, hg⟩)
    refine hK.out _ _ ?_ (fun hHeld => ?_)
    · exact gtrans hHeld hg
    clear hK K
    replace J := Lib.hid (gtrans J.out hg)
    clear hg
    refine wpAnyH_take (i := 13) (oi := ?_) (v := ?_) ?_ (by kernel_rfl) (by kernel_rfl) (by kernel_rfl) ?_ (Or.inl ⟨?_, ?_⟩) hHeld ?_
    rotate_left 2
    · rw [List.getElem?_toArray]; rfl
    · exact fun _ _ _ h => h
    · rfl
    · intro w' hSw
      go_simp
      try with_reducible rfl
    try simp only [Act.put, List.setIfInBounds_toArray, List.set_cons_zero, List.set_cons_succ]
    refine wpAnyH_take (i := 14) (oi := ?_) (v := ?_) ?_ (by kernel_rfl) (by kernel_rfl) (by kernel_rfl) ?_ (Or.inl ⟨?_, ?_⟩) hHeld ?_
    rotate_left 2
    · rw [List.getElem?_toArray]; rfl
    · exact fun _ _ _ h => h
    · rfl
    · intro w' hSw
      go_simp
      try with_reducible rfl
    try simp only [Act.put, List.setIfInBounds_toArray, List.set_cons_zero, List.set_cons_succ]
    refine wpAnyH_take (i := 15) (oi := ?_) (v := ?_) ?_ (by kernel_rfl) (by kernel_rfl) (by kernel_rfl) ?_ (Or.inl ⟨?_, ?_⟩) hHeld ?_
    rotate_left 2
    · rw [List.getElem?_toArray]; rfl
    · exact fun _ _ _ h => h
    · rfl
    · intro w' hSw
      go_simp
      try with_reducible rfl
    try simp only [Act.put, List.setIfInBounds_toArray, List.set_cons_zero, List.set_cons_succ]
    refine wpAnyH_take (i := 16) (oi := ?_) (v := ?_) ?_ (by kernel_rfl) (by kernel_rfl) (by kernel_rfl) ?_ (Or.inl ⟨?_, ?_⟩) hHeld ?_
    rotate_left 2
    · rw [List.getElem?_toArray]; rfl
    · exact fun _ _ _ h => h
    · rfl
    · intro w' hSw
      go_simp
      try with_reducible rfl
    try simp only [Act.put, List.setIfInBounds_toArray, List.set_cons_zero, List.set_cons_succ]
    refine wpAnyH_done (by kernel_rfl) ?_ _
    go_wp2_with fail
    go_ret
    exact ⟨by first | rfl | simp, J.out⟩

set_option maxHeartbeats 8000000 in
set_option maxRecDepth 100000 in
theorem exToUpperBytes_walk (w : World) (l : List UInt8) (sv : Value) (hB0 : BytesL w sv l) (hT : XTabs w) (hl : l.length ≤ 1048576) :
    Calls Tryd.prog 8 #[sv] w (TruePost w) := by
  obtain ⟨s, hsd⟩ : ∃ s : ByteArray, s = ⟨l.toArray⟩ := ⟨_, rfl⟩
  have hsl : s.data.toList = l := by rw [hsd]
  have hsz : s.size ≤ 1048576 := by rw [Lib.size_eq, hsl]; exact hl
  have CV := Lib.hid (show ∀ W, w.grownBy W none → (convert 22 9 sv).run Tryd.prog W = .ok (.string s) W from fun W hg => by rw [hsd]; exact bytes_str (hB0.kept hg))
  have HB := Lib.hid hB0
  have HT := Lib.hid hT
  clear hT hsd
  subst hsl
  obtain ⟨a1, n1, c1, rfl⟩ : ∃ a n c, sv = .slice a n c := by
    rcases hB0 with ⟨a, c, rfl, -⟩ | ⟨b, o, c, rfl, -⟩
    · exact ⟨_, _, _, rfl⟩
    · exact ⟨_, _, _, rfl⟩
  clear hB0
  cases hls : lettersB s.data.toList with
  | false =>
    go_enter Tryd.func8, Tryd.ntmps8
    go_wp2_with fail
    refine wp_region_held_drew (S := fun w' => w.grownBy w' none) (by kernel_rfl) (gdrew (grefl w none)) (fun hHeld => ?_)
    generalize w.drew = V0 at hHeld ⊢
    refine wpAnyH_ready (rs := [0]) (by kernel_rfl) (by simp) ?_
    refine AllReadyH.cons (o := ?_) ?_ (fun K hK => ?_) AllReadyH.nil
    rotate_left 1
    · rw [List.getElem?_toArray]; rfl
    go_simp
    go_wp2_with (go_at_call 26; refine (isLetter_is 97 V0 true (by omega) (by omega) (HT.out.grown hHeld).2 (by decide +kernel)).mono ?_; rintro e V1 ⟨rfl, hg⟩)
    refine hK.out _ _ ?_ (fun hHeld => ?_)
    · exact gtrans hHeld hg
    clear hK K
    clear hg
    refine wpAnyH_take (i := 1) (oi := ?_) (v := ?_) ?_ (by kernel_rfl) (by kernel_rfl) (by kernel_rfl) ?_ (Or.inl ⟨?_, ?_⟩) hHeld ?_
    rotate_left 2
    · rw [List.getElem?_toArray]; rfl
    · exact fun _ _ _ h => h
    · rfl
    · intro w' hSw
      go_simp
      try with_reducible rfl
    try simp only [Act.put, List.setIfInBounds_toArray, List.set_cons_zero, List.set_cons_succ]
    refine wpAnyH_take (i := 2) (oi := ?_) (v := ?_) ?_ (by kernel_rfl) (by kernel_rfl) (by kernel_rfl) ?_ (Or.inl ⟨?_, ?_⟩) hHeld ?_
    rotate_left 2
    · rw [List.getElem?_toArray]; rfl
    · exact fun _ _ _ h => h
    · rfl
    · intro w' hSw
      go_simp
      try with_reducible rfl
    try simp only [Act.put, List.setIfInBounds_toArray, List.set_cons_zero, List.set_cons_succ]
    refine wpAnyH_take (i := 3) (oi := ?_) (v := ?_) ?_ (by kernel_rfl) (by kernel_rfl) (by kernel_rfl) ?_ (Or.inl ⟨?_, ?_⟩) hHeld ?_
    rotate_left 2
    · rw [List.getElem?_toArray]; rfl
    · exact fun _ _ _ h => h
    · rfl
    · intro w' hSw
      have hcv := CV.out _ hSw
      go_simp
      try with_reducible rfl
    try simp only [Act.put, List.setIfInBounds_toArray, List.set_cons_zero, List.set_cons_succ]
    refine wpAnyH_ready (rs := [4]) (by kernel_rfl) (by simp) ?_
    refine AllReadyH.cons (o := ?_) ?_ (fun K hK => ?_) AllReadyH.nil
    rotate_left 1
    · rw [List.getElem?_toArray]; rfl
    go_simp
    go_wp2_with (go_at_call 27; refine (letters_is s V1 false (by omega) (HT.out.grown hHeld).2 (HT.out.grown hHeld).1.2 hls).mono ?_; rintro e V2 ⟨rfl, hg⟩)
    refine hK.out _ _ ?_ (fun hHeld => ?_)
    · exact gtrans hHeld hg
    clear hK K
    clear hg
    refine wpAnyH_take (i := 5) (oi := ?_) (v := ?_) ?_ (by kernel_rfl) (by kernel_rfl) (by kernel_rfl) ?_ (Or.inl ⟨?_, ?_⟩) hHeld ?_
    rotate_left 2
    · rw [List.getElem?_toArray]; rfl
    · exact fun _ _ _ h => h
    · rfl
    · intro w' hSw
      go_simp
      try with_reducible rfl
    try simp only [Act.put, List.setIfInBounds_toArray, List.set_cons_zero, List.set_cons_succ]
    refine wpAnyH_take (i := 6) (oi := ?_) (v := ?_) ?_ (by kernel_rfl) (by kernel_rfl) (by kernel_rfl) ?_ (Or.inl ⟨?_, ?_⟩) hHeld ?_
    rotate_left 2
    · rw [List.getElem?_toArray]; rfl
    · exact fun _ _ _ h => h
    · rfl
    · intro w' hSw
      go_simp
      try with_reducible rfl
    try simp only [Act.put, List.setIfInBounds_toArray, List.set_cons_zero, List.set_cons_succ]
    refine wpAnyH_take (i := 7) (oi := ?_) (v := undef) ?_ (by kernel_rfl) (by kernel_rfl) (by kernel_rfl) ?_ (Or.inr ⟨?_, rfl⟩) hHeld ?_
    rotate_left 1
    · rw [List.getElem?_toArray]; rfl
    · exact fun _ _ _ h => h
    · rfl
    try simp only [Act.put, List.setIfInBounds_toArray, List.set_cons_zero, List.set_cons_succ]
    refine wpAnyH_take (i := 8) (oi := ?_) (v := undef) ?_ (by kernel_rfl) (by kernel_rfl) (by kernel_rfl) ?_ (Or.inr ⟨?_, rfl⟩) hHeld ?_
    rotate_left 1
    · rw [List.getElem?_toArray]; rfl
    · exact fun _ _ _ h => h
    · rfl
    try simp only [Act.put, List.setIfInBounds_toArray, List.set_cons_zero, List.set_cons_succ]
    refine wpAnyH_take (i := 9) (oi := ?_) (v := undef) ?_ (by kernel_rfl) (by kernel_rfl) (by kernel_rfl) ?_ (Or.inr ⟨?_, rfl⟩) hHeld ?_
    rotate_left 1
    · rw [List.getElem?_toArray]; rfl
    · exact fun _ _ _ h => h
    · rfl
    try simp only [Act.put, List.setIfInBounds_toArray, List.set_cons_zero, List.set_cons_succ]
    refine wpAnyH_take (i := 10) (oi := ?_) (v := undef) ?_ (by kernel_rfl) (by kernel_rfl) (by kernel_rfl) ?_ (Or.inr ⟨?_, rfl⟩) hHeld ?_
    rotate_left 1
    · rw [List.getElem?_toArray]; rfl
    · exact fun _ _ _ h => h
    · rfl
    try simp only [Act.put, List.setIfInBounds_toArray, List.set_cons_zero, List.set_cons_succ]
    refine wpAnyH_take (i := 11) (oi := ?_) (v := undef) ?_ (by kernel_rfl) (by kernel_rfl) (by kernel_rfl) ?_ (Or.inr ⟨?_, rfl⟩) hHeld ?_
    rotate_left 1
    · rw [List.getElem?_toArray]; rfl
    · exact fun _ _ _ h => h
    · rfl
    try simp only [Act.put, List.setIfInBounds_toArray, List.set_cons_zero, List.set_cons_succ]
    refine wpAnyH_take (i := 12) (oi := ?_) (v := undef) ?_ (by kernel_rfl) (by kernel_rfl) (by kernel_rfl) ?_ (Or.inr ⟨?_, rfl⟩) hHeld ?_
    rotate_left 1
    · rw [List.getElem?_toArray]; rfl
    · exact fun _ _ _ h => h
    · rfl
    try simp only [Act.put, List.setIfInBounds_toArray, List.set_cons_zero, List.set_cons_succ]
    refine wpAnyH_take (i := 13) (oi := ?_) (v := undef) ?_ (by kernel_rfl) (by kernel_rfl) (by kernel_rfl) ?_ (Or.inr ⟨?_, rfl⟩) hHeld ?_
    rotate_left 1
    · rw [List.getElem?_toArray]; rfl
    · exact fun _ _ _ h => h
    · rfl
    try simp only [Act.put, List.setIfInBounds_toArray, List.set_cons_zero, List.set_cons_succ]
    refine wpAnyH_take (i := 14) (oi := ?_) (v := ?_) ?_ (by kernel_rfl) (by kernel_rfl) (by kernel_rfl) ?_ (Or.inl ⟨?_, ?_⟩) hHeld ?_
    rotate_left 2
    · rw [List.getElem?_toArray]; rfl
    · exact fun _ _ _ h => h
    · rfl
    · intro w' hSw
      go_simp
      try with_reducible rfl
    try simp only [Act.put, List.setIfInBounds_toArray, List.set_cons_zero, List.set_cons_succ]
    refine wpAnyH_take (i := 15) (oi := ?_) (v := ?_) ?_ (by kernel_rfl) (by kernel_rfl) (by kernel_rfl) ?_ (Or.inl ⟨?_, ?_⟩) hHeld ?_
    rotate_left 2
    · rw [List.getElem?_toArray]; rfl
    · exact fun _ _ _ h => h
    · rfl
    · intro w' hSw
      go_simp
      try with_reducible rfl
    try simp only [Act.put, List.setIfInBounds_toArray, List.set_cons_zero, List.set_cons_succ]
    refine wpAnyH_take (i := 16) (oi := ?_) (v := ?_) ?_ (by kernel_rfl) (by kernel_rfl) (by kernel_rfl) ?_ (Or.inl ⟨?_, ?_⟩) hHeld ?_
    rotate_left 2
    · rw [List.getElem?_toArray]; rfl
    · exact fun _ _ _ h => h
    · rfl
    · intro w' hSw
      go_simp
      try with_reducible rfl
    try simp only [Act.put, List.setIfInBounds_toArray, List.set_cons_zero, List.set_cons_succ]
    refine wpAnyH_done (by kernel_rfl) ?_ _
    go_wp2_with fail
    go_ret
    exact ⟨by first | rfl | simp, hHeld⟩
  | true =>
    obtain ⟨o, ho⟩ := ex_out (mapD toUpperU s.data.toList)
    have zo := out_size toUpperU ho
    have Ho := Lib.hid ho
    clear ho zo
    go_enter Tryd.func8, Tryd.ntmps8
    go_wp2_with fail
    refine wp_region_held_drew (S := fun w' => w.grownBy w' none) (by kernel_rfl) (gdrew (grefl w none)) (fun hHeld => ?_)
    generalize w.drew = V0 at hHeld ⊢
    refine wpAnyH_ready (rs := [0]) (by kernel_rfl) (by simp) ?_
    refine AllReadyH.cons (o := ?_) ?_ (fun K hK => ?_) AllReadyH.nil
    rotate_left 1
    · rw [List.getElem?_toArray]; rfl
    go_simp
    go_wp2_with (go_at_call 26; refine (isLetter_is 97 V0 true (by omega) (by omega) (HT.out.grown hHeld).2 (by decide +kernel)).mono ?_; rintro e V1 ⟨rfl, hg⟩)
    refine hK.out _ _ ?_ (fun hHeld => ?_)
    · exact gtrans hHeld hg
    clear hK K
    clear hg
    refine wpAnyH_take (i := 1) (oi := ?_) (v := ?_) ?_ (by kernel_rfl) (by kernel_rfl) (by kernel_rfl) ?_ (Or.inl ⟨?_, ?_⟩) hHeld ?_
    rotate_left 2
    · rw [List.getElem?_toArray]; rfl
    · exact fun _ _ _ h => h
    · rfl
    · intro w' hSw
      go_simp
      try with_reducible rfl
    try simp only [Act.put, List.setIfInBounds_toArray, List.set_cons_zero, List.set_cons_succ]
    refine wpAnyH_take (i := 2) (oi := ?_) (v := ?_) ?_ (by kernel_rfl) (by kernel_rfl) (by kernel_rfl) ?_ (Or.inl ⟨?_, ?_⟩) hHeld ?_
    rotate_left 2
    · rw [List.getElem?_toArray]; rfl
    · exact fun _ _ _ h => h
    · rfl
    · intro w' hSw
      go_simp
      try with_reducible rfl
    try simp only [Act.put, List.setIfInBounds_toArray, List.set_cons_zero, List.set_cons_succ]
    refine wpAnyH_take (i := 3) (oi := ?_) (v := ?_) ?_ (by kernel_rfl) (by kernel_rfl) (by kernel_rfl) ?_ (Or.inl ⟨?_, ?_⟩) hHeld ?_
    rotate_left 2
    · rw [List.getElem?_toArray]; rfl
    · exact fun _ _ _ h => h
    · rfl
    · intro w' hSw
      have hcv := CV.out _ hSw
      go_simp
      try with_reducible rfl
    try simp only [Act.put, List.setIfInBounds_toArray, List.set_cons_zero, List.set_cons_succ]
    refine wpAnyH_ready (rs := [4]) (by kernel_rfl) (by simp) ?_
    refine AllReadyH.cons (o := ?_) ?_ (fun K hK => ?_) AllReadyH.nil
    rotate_left 1
    · rw [List.getElem?_toArray]; rfl
    go_simp
    go_wp2_with (go_at_call 27; refine (letters_is s V1 true (by omega) (HT.out.grown hHeld).2 (HT.out.grown hHeld).1.2 hls).mono ?_; rintro e V2 ⟨rfl, hg⟩)
    refine hK.out _ _ ?_ (fun hHeld => ?_)
    · exact gtrans hHeld hg
    clear hK K
    clear hg
    refine wpAnyH_take (i := 5) (oi := ?_) (v := ?_) ?_ (by kernel_rfl) (by kernel_rfl) (by kernel_rfl) ?_ (Or.inl ⟨?_, ?_⟩) hHeld ?_
    rotate_left 2
    · rw [List.getElem?_toArray]; rfl
    · exact fun _ _ _ h => h
    · rfl
    · intro w' hSw
      go_simp
      try with_reducible rfl
    try simp only [Act.put, List.setIfInBounds_toArray, List.set_cons_zero, List.set_cons_succ]
    refine wpAnyH_take (i := 6) (oi := ?_) (v := ?_) ?_ (by kernel_rfl) (by kernel_rfl) (by kernel_rfl) ?_ (Or.inl ⟨?_, ?_⟩) hHeld ?_
    rotate_left 2
    · rw [List.getElem?_toArray]; rfl
    · exact fun _ _ _ h => h
    · rfl
    · intro w' hSw
      go_simp
      try with_reducible rfl
    try simp only [Act.put, List.setIfInBounds_toArray, List.set_cons_zero, List.set_cons_succ]
    refine wpAnyH_take (i := 7) (oi := ?_) (v := ?_) ?_ (by kernel_rfl) (by kernel_rfl) (by kernel_rfl) ?_ (Or.inl ⟨?_, ?_⟩) hHeld ?_
    rotate_left 2
    · rw [List.getElem?_toArray]; rfl
    · exact fun _ _ _ h => h
    · rfl
    · intro w' hSw
      go_simp
      try with_reducible rfl
    try simp only [Act.put, List.setIfInBounds_toArray, List.set_cons_zero, List.set_cons_succ]
    refine wpAnyH_take (i := 10) (oi := ?_) (v := ?_) ?_ (by kernel_rfl) (by kernel_rfl) (by kernel_rfl) ?_ (Or.inl ⟨?_, ?_⟩) hHeld ?_
    rotate_left 2
    · rw [List.getElem?_toArray]; rfl
    · exact fun _ _ _ h => h
    · rfl
    · intro w' hSw
      go_simp
      try with_reducible rfl
    try simp only [Act.put, List.setIfInBounds_toArray, List.set_cons_zero, List.set_cons_succ]
    refine wpAnyH_take (i := 11) (oi := ?_) (v := ?_) ?_ (by kernel_rfl) (by kernel_rfl) (by kernel_rfl) ?_ (Or.inl ⟨?_, ?_⟩) hHeld ?_
    rotate_left 2
    · rw [List.getElem?_toArray]; rfl
    · exact fun _ _ _ h => h
    · rfl
    · intro w' hSw
      have hcv := CV.out _ hSw
      go_simp
      try with_reducible rfl
    try simp only [Act.put, List.setIfInBounds_toArray, List.set_cons_zero, List.set_cons_succ]
    refine wpAnyH_ready (rs := [8]) (by kernel_rfl) (by simp) ?_
    refine AllReadyH.cons (o := ?_) ?_ (fun K hK => ?_) AllReadyH.nil
    rotate_left 1
    · rw [List.getElem?_toArray]; rfl
    go_simp
    go_wp2_with (go_at_call 20; refine (bytesUpper_is _ _ o V2 (HB.out.kept hHeld) (by omega) (HT.out.grown hHeld).1 Ho.out).mono ?_; rintro e V3 ⟨gM, cM, rfl, hO, hg⟩)
    refine hK.out _ _ ?_ (fun hHeld => ?_)
    · exact gtrans hHeld hg
    clear hK K
    clear hg
    have J := Lib.hid hHeld
    refine wpAnyH_more (S' := fun w' => V3.grownBy w' none) (fun w' h => gtrans J.out h) _ _ _ _ ?_
    replace hHeld : (fun w' => V3.grownBy w' none) _ := grefl V3 none
    refine wpAnyH_take (i := 9) (oi := ?_) (v := ?_) ?_ (by kernel_rfl) (by kernel_rfl) (by kernel_rfl) ?_ (Or.inl ⟨?_, ?_⟩) hHeld ?_
    rotate_left 2
    · rw [List.getElem?_toArray]; rfl
    · exact fun _ _ _ h => h
    · rfl
    · intro w' hSw
      have hcv := hO _ hSw
      go_simp
      try with_reducible rfl
    try simp only [Act.put, List.setIfInBounds_toArray, List.set_cons_zero, List.set_cons_succ]
    clear hO
    refine wpAnyH_ready (rs := [12]) (by kernel_rfl) (by simp) ?_
    refine AllReadyH.cons (o := ?_) ?_ (fun K hK => ?_) AllReadyH.nil
    rotate_left 1
    · rw [List.getElem?_toArray]; rfl
    go_simp
    go_wp2_with (go_at_call 28; refine (turnedUpper_is s V3 o (by omega) (HT.out.grown J.out).1 Ho.out).mono ?_; rintro e V4 ⟨rfl, hg⟩)
    refine hK.out _ _ ?_ (fun hHeld => ?_)
    · exact gtrans hHeld hg
    clear hK K
    replace J := Lib.hid (gtrans J.out hg)
    clear hg
    refine wpAnyH_take (i := 13) (oi := ?_) (v := ?_) ?_ (by kernel_rfl) (by kernel_rfl) (by kernel_rfl) ?_ (Or.inl ⟨?_, ?_⟩) hHeld ?_
    rotate_left 2
    · rw [List.getElem?_toArray]; rfl
    · exact fun _ _ _ h => h
    · rfl
    · intro w' hSw
      go_simp
      try with_reducible rfl
    try simp only [Act.put, List.setIfInBounds_toArray, List.set_cons_zero, List.set_cons_succ]
    refine wpAnyH_take (i := 14) (oi := ?_) (v := ?_) ?_ (by kernel_rfl) (by kernel_rfl) (by kernel_rfl) ?_ (Or.inl ⟨?_, ?_⟩) hHeld ?_
    rotate_left 2
    · rw [List.getElem?_toArray]; rfl
    · exact fun _ _ _ h => h
    · rfl
    · intro w' hSw
      go_simp
      try with_reducible rfl
    try simp only [Act.put, List.setIfInBounds_toArray, List.set_cons_zero, List.set_cons_succ]
    refine wpAnyH_take (i := 15) (oi := ?_) (v := ?_) ?_ (by kernel_rfl) (by kernel_rfl) (by kernel_rfl) ?_ (Or.inl ⟨?_, ?_⟩) hHeld ?_
    rotate_left 2
    · rw [List.getElem?_toArray]; rfl
    · exact fun _ _ _ h => h
    · rfl
    · intro w' hSw
      go_simp
      try with_reducible rfl
    try simp only [Act.put, List.setIfInBounds_toArray, List.set_cons_zero, List.set_cons_succ]
    refine wpAnyH_take (i := 16) (oi := ?_) (v := ?_) ?_ (by kernel_rfl) (by kernel_rfl) (by kernel_rfl) ?_ (Or.inl ⟨?_, ?_⟩) hHeld ?_
    rotate_left 2
    · rw [List.getElem?_toArray]; rfl
    · exact fun _ _ _ h => h
    · rfl
    · intro w' hSw
      go_simp
      try with_reducible rfl
    try simp only [Act.put, List.setIfInBounds_toArray, List.set_cons_zero, List.set_cons_succ]
    refine wpAnyH_done (by kernel_rfl) ?_ _
    go_wp2_with fail
    go_ret
    exact ⟨by first | rfl | simp, J.out⟩

end Go.Proofs.YtjcbhnnlakfmaaaDoor
