/- The exact law on EqualFold of slices of bytes that are valid UTF-8. Written by gen_laweq4.py. -/
import Derived.Test.YtgljpgnmlpglnaaDoorLawEq4
import Derived.Test.YtgljpgnmlpglnaaDoorReg
namespace Go.Proofs.YtgljpgnmlpglnaaDoor
open Go.Shelf Go.RowKit Go.Lib Go.Ftx

set_option maxHeartbeats 8000000 in
theorem exEqBValid_walk (w : World) (l : List UInt8) (sv : Value) (hB1 : BytesL w sv l) (m : List UInt8) (tv : Value) (hB2 : BytesL w tv m) (hT : EqTabs w) (hl : l.length ≤ 1048576) (hm : m.length ≤ 1048576) :
    Calls Tryd.prog 13 #[sv, tv] w (TruePost w) := by
  have hz1 : (⟨l.toArray⟩ : ByteArray).size = l.length := by show l.toArray.size = _; simp
  have hz2 : (⟨m.toArray⟩ : ByteArray).size = m.length := by show m.toArray.size = _; simp
  have hcl := chars_length l
  have cE : ∀ W, w.grownBy W none → Calls Tryd.prog 22 #[sv, tv] W (BoolPost W (kinL (chars l) (chars m))) := fun W hg => implEqB_any l m sv tv W (by omega) (by omega) (hB1.kept hg) (hB2.kept hg) (hT.1.grown hg) (hT.2.grown hg)
  have cC1 : ∀ W, Calls Tryd.prog 19 #[.string ⟨l.toArray⟩] W (CharsPost W (chars l)) := fun W => chars_any ⟨l.toArray⟩ W (by rw [hz1]; omega)
  have cC2 : ∀ W, Calls Tryd.prog 19 #[.string ⟨m.toArray⟩] W (CharsPost W (chars m)) := fun W => chars_any ⟨m.toArray⟩ W (by rw [hz2]; omega)
  have cK : ∀ W g1 g2 c1 c2, w.grownBy W none → RunesAt W g1 (chars l) → RunesAt W g2 (chars m) → Calls Tryd.prog 21 #[.slice (some ⟨g1, 0, none⟩) (chars l).length c1, .slice (some ⟨g2, 0, none⟩) (chars m).length c2] W (BoolPost W (kinL (chars l) (chars m))) := fun W g1 g2 c1 c2 hg h1 h2 =>
    kinAll_any _ _ g1 g2 c1 c2 W h1 h2 (by omega) (hT.1.grown hg)
  have cv1 : ∀ W, w.grownBy W none → (convert 22 9 sv).run Tryd.prog W = .ok (.string ⟨l.toArray⟩) W := fun W hg => bytes_str (hB1.kept hg)
  have cv2 : ∀ W, w.grownBy W none → (convert 22 9 tv).run Tryd.prog W = .ok (.string ⟨m.toArray⟩) W := fun W hg => bytes_str (hB2.kept hg)
  have cV1 : ∀ W, w.grownBy W none → Calls Tryd.prog 18 #[.string ⟨l.toArray⟩] W (BoolPost W (Lib.validD l)) := fun W hg => valid_any ⟨l.toArray⟩ W (by rw [hz1]; omega) (hT.2.grown hg)
  have cV2 : ∀ W, w.grownBy W none → Calls Tryd.prog 18 #[.string ⟨m.toArray⟩] W (BoolPost W (Lib.validD m)) := fun W hg => valid_any ⟨m.toArray⟩ W (by rw [hz2]; omega) (hT.2.grown hg)
  have CV1 := Lib.hid cV1
  have CV2 := Lib.hid cV2
  clear cV1 cV2
  generalize Lib.validD l = VA at *
  generalize Lib.validD m = VB at *
  obtain ⟨a1, n1, c1, rfl⟩ : ∃ a n c, sv = .slice a n c := by
    rcases hB1 with ⟨a, c, rfl, -⟩ | ⟨b, o, c, rfl, -⟩
    · exact ⟨_, _, _, rfl⟩
    · exact ⟨_, _, _, rfl⟩
  obtain ⟨a2, n2, c2, rfl⟩ : ∃ a n c, tv = .slice a n c := by
    rcases hB2 with ⟨a, c, rfl, -⟩ | ⟨b, o, c, rfl, -⟩
    · exact ⟨_, _, _, rfl⟩
    · exact ⟨_, _, _, rfl⟩
  have CE := Lib.hid cE
  have CC1 := Lib.hid cC1
  have CC2 := Lib.hid cC2
  have CK := Lib.hid cK
  have CS := Lib.hid cv1
  have CT := Lib.hid cv2
  clear cE cC1 cC2 cK cv1 cv2 hT hB1 hB2 hz1 hz2 hl hm hcl
  generalize kinL (chars l) (chars m) = b at *
  generalize chars l = rs at *
  generalize chars m = ts at *
  generalize (⟨l.toArray⟩ : ByteArray) = S at *
  generalize (⟨m.toArray⟩ : ByteArray) = T at *
  have G0 : w.grownBy w.drew none := gdrew (grefl w none)
  have CS0 := CS.out _ G0
  have CT0 := CT.out _ G0
  have hbb : (b == b) = true := by simp
  go_enter Tryd.func13, Tryd.ntmps13
  cases VA with
  | false =>
    go_wp2_with fail
    refine wp_region_held_drew (S := fun w' => w.grownBy w' none) (by kernel_rfl) G0 (fun hHeld => ?_)
    refine wpAnyH_take (i := 0) (oi := ?_) (v := ?_) ?_ (by kernel_rfl) (by kernel_rfl) (by kernel_rfl) ?_ (Or.inl ⟨?_, ?_⟩) hHeld ?_
    rotate_left 2
    · rw [List.getElem?_toArray]; rfl
    · exact fun _ _ _ h => h
    · rfl
    · intro w' hSw
      go_simp
      try with_reducible rfl
    try simp only [Act.put, List.setIfInBounds_toArray, List.set_cons_zero, List.set_cons_succ]
    refine wpAnyH_take (i := 1) (oi := ?_) (v := ?_) ?_ (by kernel_rfl) (by kernel_rfl) (by kernel_rfl) ?_ (Or.inl ⟨?_, ?_⟩) hHeld ?_
    rotate_left 2
    · rw [List.getElem?_toArray]; rfl
    · exact fun _ _ _ h => h
    · rfl
    · intro w' hSw
      have hcv := CS.out _ hSw
      go_simp
      try with_reducible rfl
    try simp only [Act.put, List.setIfInBounds_toArray, List.set_cons_zero, List.set_cons_succ]
    refine wpAnyH_ready (rs := [2]) (by kernel_rfl) (by simp) ?_
    refine AllReadyH.cons (o := ?_) ?_ (fun K hK => ?_) AllReadyH.nil
    rotate_left 1
    · rw [List.getElem?_toArray]; rfl
    go_simp
    go_wp2_with (go_at_call 18; refine (CV1.out _ hHeld).mono ?_; rintro e W1 ⟨rfl, hg1⟩)
    refine hK.out _ _ ?_ (fun hHeld => ?_)
    · exact gtrans hHeld hg1
    clear hK K
    refine wpAnyH_take (i := 3) (oi := ?_) (v := ?_) ?_ (by kernel_rfl) (by kernel_rfl) (by kernel_rfl) ?_ (Or.inl ⟨?_, ?_⟩) hHeld ?_
    rotate_left 2
    · rw [List.getElem?_toArray]; rfl
    · exact fun _ _ _ h => h
    · rfl
    · intro w' hSw
      go_simp
      try with_reducible rfl
    try simp only [Act.put, List.setIfInBounds_toArray, List.set_cons_zero, List.set_cons_succ]
    refine wpAnyH_take (i := 4) (oi := ?_) (v := ?_) ?_ (by kernel_rfl) (by kernel_rfl) (by kernel_rfl) ?_ (Or.inl ⟨?_, ?_⟩) hHeld ?_
    rotate_left 2
    · rw [List.getElem?_toArray]; rfl
    · exact fun _ _ _ h => h
    · rfl
    · intro w' hSw
      go_simp
      try with_reducible rfl
    try simp only [Act.put, List.setIfInBounds_toArray, List.set_cons_zero, List.set_cons_succ]
    refine wpAnyH_take (i := 5) (oi := ?_) (v := undef) ?_ (by kernel_rfl) (by kernel_rfl) (by kernel_rfl) ?_ (Or.inr ⟨?_, rfl⟩) hHeld ?_
    rotate_left 1
    · rw [List.getElem?_toArray]; rfl
    · exact fun _ _ _ h => h
    · rfl
    try simp only [Act.put, List.setIfInBounds_toArray, List.set_cons_zero, List.set_cons_succ]
    refine wpAnyH_take (i := 6) (oi := ?_) (v := undef) ?_ (by kernel_rfl) (by kernel_rfl) (by kernel_rfl) ?_ (Or.inr ⟨?_, rfl⟩) hHeld ?_
    rotate_left 1
    · rw [List.getElem?_toArray]; rfl
    · exact fun _ _ _ h => h
    · rfl
    try simp only [Act.put, List.setIfInBounds_toArray, List.set_cons_zero, List.set_cons_succ]
    refine wpAnyH_take (i := 7) (oi := ?_) (v := undef) ?_ (by kernel_rfl) (by kernel_rfl) (by kernel_rfl) ?_ (Or.inr ⟨?_, rfl⟩) hHeld ?_
    rotate_left 1
    · rw [List.getElem?_toArray]; rfl
    · exact fun _ _ _ h => h
    · rfl
    try simp only [Act.put, List.setIfInBounds_toArray, List.set_cons_zero, List.set_cons_succ]
    refine wpAnyH_take (i := 8) (oi := ?_) (v := undef) ?_ (by kernel_rfl) (by kernel_rfl) (by kernel_rfl) ?_ (Or.inr ⟨?_, rfl⟩) hHeld ?_
    rotate_left 1
    · rw [List.getElem?_toArray]; rfl
    · exact fun _ _ _ h => h
    · rfl
    try simp only [Act.put, List.setIfInBounds_toArray, List.set_cons_zero, List.set_cons_succ]
    refine wpAnyH_take (i := 9) (oi := ?_) (v := ?_) ?_ (by kernel_rfl) (by kernel_rfl) (by kernel_rfl) ?_ (Or.inl ⟨?_, ?_⟩) hHeld ?_
    rotate_left 2
    · rw [List.getElem?_toArray]; rfl
    · exact fun _ _ _ h => h
    · rfl
    · intro w' hSw
      go_simp
      try with_reducible rfl
    try simp only [Act.put, List.setIfInBounds_toArray, List.set_cons_zero, List.set_cons_succ]
    refine wpAnyH_take (i := 10) (oi := ?_) (v := ?_) ?_ (by kernel_rfl) (by kernel_rfl) (by kernel_rfl) ?_ (Or.inl ⟨?_, ?_⟩) hHeld ?_
    rotate_left 2
    · rw [List.getElem?_toArray]; rfl
    · exact fun _ _ _ h => h
    · rfl
    · intro w' hSw
      go_simp
      try with_reducible rfl
    try simp only [Act.put, List.setIfInBounds_toArray, List.set_cons_zero, List.set_cons_succ]
    refine wpAnyH_take (i := 11) (oi := ?_) (v := undef) ?_ (by kernel_rfl) (by kernel_rfl) (by kernel_rfl) ?_ (Or.inr ⟨?_, rfl⟩) hHeld ?_
    rotate_left 1
    · rw [List.getElem?_toArray]; rfl
    · exact fun _ _ _ h => h
    · rfl
    try simp only [Act.put, List.setIfInBounds_toArray, List.set_cons_zero, List.set_cons_succ]
    refine wpAnyH_take (i := 12) (oi := ?_) (v := undef) ?_ (by kernel_rfl) (by kernel_rfl) (by kernel_rfl) ?_ (Or.inr ⟨?_, rfl⟩) hHeld ?_
    rotate_left 1
    · rw [List.getElem?_toArray]; rfl
    · exact fun _ _ _ h => h
    · rfl
    try simp only [Act.put, List.setIfInBounds_toArray, List.set_cons_zero, List.set_cons_succ]
    refine wpAnyH_take (i := 13) (oi := ?_) (v := undef) ?_ (by kernel_rfl) (by kernel_rfl) (by kernel_rfl) ?_ (Or.inr ⟨?_, rfl⟩) hHeld ?_
    rotate_left 1
    · rw [List.getElem?_toArray]; rfl
    · exact fun _ _ _ h => h
    · rfl
    try simp only [Act.put, List.setIfInBounds_toArray, List.set_cons_zero, List.set_cons_succ]
    refine wpAnyH_take (i := 14) (oi := ?_) (v := undef) ?_ (by kernel_rfl) (by kernel_rfl) (by kernel_rfl) ?_ (Or.inr ⟨?_, rfl⟩) hHeld ?_
    rotate_left 1
    · rw [List.getElem?_toArray]; rfl
    · exact fun _ _ _ h => h
    · rfl
    try simp only [Act.put, List.setIfInBounds_toArray, List.set_cons_zero, List.set_cons_succ]
    refine wpAnyH_take (i := 15) (oi := ?_) (v := undef) ?_ (by kernel_rfl) (by kernel_rfl) (by kernel_rfl) ?_ (Or.inr ⟨?_, rfl⟩) hHeld ?_
    rotate_left 1
    · rw [List.getElem?_toArray]; rfl
    · exact fun _ _ _ h => h
    · rfl
    try simp only [Act.put, List.setIfInBounds_toArray, List.set_cons_zero, List.set_cons_succ]
    refine wpAnyH_take (i := 16) (oi := ?_) (v := undef) ?_ (by kernel_rfl) (by kernel_rfl) (by kernel_rfl) ?_ (Or.inr ⟨?_, rfl⟩) hHeld ?_
    rotate_left 1
    · rw [List.getElem?_toArray]; rfl
    · exact fun _ _ _ h => h
    · rfl
    try simp only [Act.put, List.setIfInBounds_toArray, List.set_cons_zero, List.set_cons_succ]
    refine wpAnyH_take (i := 17) (oi := ?_) (v := undef) ?_ (by kernel_rfl) (by kernel_rfl) (by kernel_rfl) ?_ (Or.inr ⟨?_, rfl⟩) hHeld ?_
    rotate_left 1
    · rw [List.getElem?_toArray]; rfl
    · exact fun _ _ _ h => h
    · rfl
    try simp only [Act.put, List.setIfInBounds_toArray, List.set_cons_zero, List.set_cons_succ]
    refine wpAnyH_take (i := 18) (oi := ?_) (v := undef) ?_ (by kernel_rfl) (by kernel_rfl) (by kernel_rfl) ?_ (Or.inr ⟨?_, rfl⟩) hHeld ?_
    rotate_left 1
    · rw [List.getElem?_toArray]; rfl
    · exact fun _ _ _ h => h
    · rfl
    try simp only [Act.put, List.setIfInBounds_toArray, List.set_cons_zero, List.set_cons_succ]
    refine wpAnyH_take (i := 19) (oi := ?_) (v := undef) ?_ (by kernel_rfl) (by kernel_rfl) (by kernel_rfl) ?_ (Or.inr ⟨?_, rfl⟩) hHeld ?_
    rotate_left 1
    · rw [List.getElem?_toArray]; rfl
    · exact fun _ _ _ h => h
    · rfl
    try simp only [Act.put, List.setIfInBounds_toArray, List.set_cons_zero, List.set_cons_succ]
    refine wpAnyH_take (i := 20) (oi := ?_) (v := undef) ?_ (by kernel_rfl) (by kernel_rfl) (by kernel_rfl) ?_ (Or.inr ⟨?_, rfl⟩) hHeld ?_
    rotate_left 1
    · rw [List.getElem?_toArray]; rfl
    · exact fun _ _ _ h => h
    · rfl
    try simp only [Act.put, List.setIfInBounds_toArray, List.set_cons_zero, List.set_cons_succ]
    refine wpAnyH_take (i := 21) (oi := ?_) (v := undef) ?_ (by kernel_rfl) (by kernel_rfl) (by kernel_rfl) ?_ (Or.inr ⟨?_, rfl⟩) hHeld ?_
    rotate_left 1
    · rw [List.getElem?_toArray]; rfl
    · exact fun _ _ _ h => h
    · rfl
    try simp only [Act.put, List.setIfInBounds_toArray, List.set_cons_zero, List.set_cons_succ]
    refine wpAnyH_take (i := 22) (oi := ?_) (v := ?_) ?_ (by kernel_rfl) (by kernel_rfl) (by kernel_rfl) ?_ (Or.inl ⟨?_, ?_⟩) hHeld ?_
    rotate_left 2
    · rw [List.getElem?_toArray]; rfl
    · exact fun _ _ _ h => h
    · rfl
    · intro w' hSw
      go_simp
      try with_reducible rfl
    try simp only [Act.put, List.setIfInBounds_toArray, List.set_cons_zero, List.set_cons_succ]
    refine wpAnyH_take (i := 23) (oi := ?_) (v := ?_) ?_ (by kernel_rfl) (by kernel_rfl) (by kernel_rfl) ?_ (Or.inl ⟨?_, ?_⟩) hHeld ?_
    rotate_left 2
    · rw [List.getElem?_toArray]; rfl
    · exact fun _ _ _ h => h
    · rfl
    · intro w' hSw
      go_simp
      try with_reducible rfl
    try simp only [Act.put, List.setIfInBounds_toArray, List.set_cons_zero, List.set_cons_succ]
    refine wpAnyH_done (by kernel_rfl) ?_ _
    go_wp2_with fail
    go_ret
    exact ⟨by first | rfl | simp, hHeld⟩
  | true =>
    cases VB with
    | false =>
      go_wp2_with fail
      refine wp_region_held_drew (S := fun w' => w.grownBy w' none) (by kernel_rfl) G0 (fun hHeld => ?_)
      refine wpAnyH_take (i := 0) (oi := ?_) (v := ?_) ?_ (by kernel_rfl) (by kernel_rfl) (by kernel_rfl) ?_ (Or.inl ⟨?_, ?_⟩) hHeld ?_
      rotate_left 2
      · rw [List.getElem?_toArray]; rfl
      · exact fun _ _ _ h => h
      · rfl
      · intro w' hSw
        go_simp
        try with_reducible rfl
      try simp only [Act.put, List.setIfInBounds_toArray, List.set_cons_zero, List.set_cons_succ]
      refine wpAnyH_take (i := 1) (oi := ?_) (v := ?_) ?_ (by kernel_rfl) (by kernel_rfl) (by kernel_rfl) ?_ (Or.inl ⟨?_, ?_⟩) hHeld ?_
      rotate_left 2
      · rw [List.getElem?_toArray]; rfl
      · exact fun _ _ _ h => h
      · rfl
      · intro w' hSw
        have hcv := CS.out _ hSw
        go_simp
        try with_reducible rfl
      try simp only [Act.put, List.setIfInBounds_toArray, List.set_cons_zero, List.set_cons_succ]
      refine wpAnyH_ready (rs := [2]) (by kernel_rfl) (by simp) ?_
      refine AllReadyH.cons (o := ?_) ?_ (fun K hK => ?_) AllReadyH.nil
      rotate_left 1
      · rw [List.getElem?_toArray]; rfl
      go_simp
      go_wp2_with (go_at_call 18; refine (CV1.out _ hHeld).mono ?_; rintro e W1 ⟨rfl, hg1⟩)
      refine hK.out _ _ ?_ (fun hHeld => ?_)
      · exact gtrans hHeld hg1
      clear hK K
      refine wpAnyH_take (i := 3) (oi := ?_) (v := ?_) ?_ (by kernel_rfl) (by kernel_rfl) (by kernel_rfl) ?_ (Or.inl ⟨?_, ?_⟩) hHeld ?_
      rotate_left 2
      · rw [List.getElem?_toArray]; rfl
      · exact fun _ _ _ h => h
      · rfl
      · intro w' hSw
        go_simp
        try with_reducible rfl
      try simp only [Act.put, List.setIfInBounds_toArray, List.set_cons_zero, List.set_cons_succ]
      refine wpAnyH_take (i := 4) (oi := ?_) (v := ?_) ?_ (by kernel_rfl) (by kernel_rfl) (by kernel_rfl) ?_ (Or.inl ⟨?_, ?_⟩) hHeld ?_
      rotate_left 2
      · rw [List.getElem?_toArray]; rfl
      · exact fun _ _ _ h => h
      · rfl
      · intro w' hSw
        go_simp
        try with_reducible rfl
      try simp only [Act.put, List.setIfInBounds_toArray, List.set_cons_zero, List.set_cons_succ]
      refine wpAnyH_take (i := 5) (oi := ?_) (v := ?_) ?_ (by kernel_rfl) (by kernel_rfl) (by kernel_rfl) ?_ (Or.inl ⟨?_, ?_⟩) hHeld ?_
      rotate_left 2
      · rw [List.getElem?_toArray]; rfl
      · exact fun _ _ _ h => h
      · rfl
      · intro w' hSw
        go_simp
        try with_reducible rfl
      try simp only [Act.put, List.setIfInBounds_toArray, List.set_cons_zero, List.set_cons_succ]
      refine wpAnyH_take (i := 6) (oi := ?_) (v := ?_) ?_ (by kernel_rfl) (by kernel_rfl) (by kernel_rfl) ?_ (Or.inl ⟨?_, ?_⟩) hHeld ?_
      rotate_left 2
      · rw [List.getElem?_toArray]; rfl
      · exact fun _ _ _ h => h
      · rfl
      · intro w' hSw
        have hcv := CT.out _ hSw
        go_simp
        try with_reducible rfl
      try simp only [Act.put, List.setIfInBounds_toArray, List.set_cons_zero, List.set_cons_succ]
      refine wpAnyH_ready (rs := [7]) (by kernel_rfl) (by simp) ?_
      refine AllReadyH.cons (o := ?_) ?_ (fun K hK => ?_) AllReadyH.nil
      rotate_left 1
      · rw [List.getElem?_toArray]; rfl
      go_simp
      go_wp2_with (go_at_call 18; refine (CV2.out _ hHeld).mono ?_; rintro e W2 ⟨rfl, hg2⟩)
      refine hK.out _ _ ?_ (fun hHeld => ?_)
      · exact gtrans hHeld hg2
      clear hK K
      refine wpAnyH_take (i := 8) (oi := ?_) (v := ?_) ?_ (by kernel_rfl) (by kernel_rfl) (by kernel_rfl) ?_ (Or.inl ⟨?_, ?_⟩) hHeld ?_
      rotate_left 2
      · rw [List.getElem?_toArray]; rfl
      · exact fun _ _ _ h => h
      · rfl
      · intro w' hSw
        go_simp
        try with_reducible rfl
      try simp only [Act.put, List.setIfInBounds_toArray, List.set_cons_zero, List.set_cons_succ]
      refine wpAnyH_take (i := 9) (oi := ?_) (v := ?_) ?_ (by kernel_rfl) (by kernel_rfl) (by kernel_rfl) ?_ (Or.inl ⟨?_, ?_⟩) hHeld ?_
      rotate_left 2
      · rw [List.getElem?_toArray]; rfl
      · exact fun _ _ _ h => h
      · rfl
      · intro w' hSw
        go_simp
        try with_reducible rfl
      try simp only [Act.put, List.setIfInBounds_toArray, List.set_cons_zero, List.set_cons_succ]
      refine wpAnyH_take (i := 10) (oi := ?_) (v := ?_) ?_ (by kernel_rfl) (by kernel_rfl) (by kernel_rfl) ?_ (Or.inl ⟨?_, ?_⟩) hHeld ?_
      rotate_left 2
      · rw [List.getElem?_toArray]; rfl
      · exact fun _ _ _ h => h
      · rfl
      · intro w' hSw
        go_simp
        try with_reducible rfl
      try simp only [Act.put, List.setIfInBounds_toArray, List.set_cons_zero, List.set_cons_succ]
      refine wpAnyH_take (i := 11) (oi := ?_) (v := undef) ?_ (by kernel_rfl) (by kernel_rfl) (by kernel_rfl) ?_ (Or.inr ⟨?_, rfl⟩) hHeld ?_
      rotate_left 1
      · rw [List.getElem?_toArray]; rfl
      · exact fun _ _ _ h => h
      · rfl
      try simp only [Act.put, List.setIfInBounds_toArray, List.set_cons_zero, List.set_cons_succ]
      refine wpAnyH_take (i := 12) (oi := ?_) (v := undef) ?_ (by kernel_rfl) (by kernel_rfl) (by kernel_rfl) ?_ (Or.inr ⟨?_, rfl⟩) hHeld ?_
      rotate_left 1
      · rw [List.getElem?_toArray]; rfl
      · exact fun _ _ _ h => h
      · rfl
      try simp only [Act.put, List.setIfInBounds_toArray, List.set_cons_zero, List.set_cons_succ]
      refine wpAnyH_take (i := 13) (oi := ?_) (v := undef) ?_ (by kernel_rfl) (by kernel_rfl) (by kernel_rfl) ?_ (Or.inr ⟨?_, rfl⟩) hHeld ?_
      rotate_left 1
      · rw [List.getElem?_toArray]; rfl
      · exact fun _ _ _ h => h
      · rfl
      try simp only [Act.put, List.setIfInBounds_toArray, List.set_cons_zero, List.set_cons_succ]
      refine wpAnyH_take (i := 14) (oi := ?_) (v := undef) ?_ (by kernel_rfl) (by kernel_rfl) (by kernel_rfl) ?_ (Or.inr ⟨?_, rfl⟩) hHeld ?_
      rotate_left 1
      · rw [List.getElem?_toArray]; rfl
      · exact fun _ _ _ h => h
      · rfl
      try simp only [Act.put, List.setIfInBounds_toArray, List.set_cons_zero, List.set_cons_succ]
      refine wpAnyH_take (i := 15) (oi := ?_) (v := undef) ?_ (by kernel_rfl) (by kernel_rfl) (by kernel_rfl) ?_ (Or.inr ⟨?_, rfl⟩) hHeld ?_
      rotate_left 1
      · rw [List.getElem?_toArray]; rfl
      · exact fun _ _ _ h => h
      · rfl
      try simp only [Act.put, List.setIfInBounds_toArray, List.set_cons_zero, List.set_cons_succ]
      refine wpAnyH_take (i := 16) (oi := ?_) (v := undef) ?_ (by kernel_rfl) (by kernel_rfl) (by kernel_rfl) ?_ (Or.inr ⟨?_, rfl⟩) hHeld ?_
      rotate_left 1
      · rw [List.getElem?_toArray]; rfl
      · exact fun _ _ _ h => h
      · rfl
      try simp only [Act.put, List.setIfInBounds_toArray, List.set_cons_zero, List.set_cons_succ]
      refine wpAnyH_take (i := 17) (oi := ?_) (v := undef) ?_ (by kernel_rfl) (by kernel_rfl) (by kernel_rfl) ?_ (Or.inr ⟨?_, rfl⟩) hHeld ?_
      rotate_left 1
      · rw [List.getElem?_toArray]; rfl
      · exact fun _ _ _ h => h
      · rfl
      try simp only [Act.put, List.setIfInBounds_toArray, List.set_cons_zero, List.set_cons_succ]
      refine wpAnyH_take (i := 18) (oi := ?_) (v := undef) ?_ (by kernel_rfl) (by kernel_rfl) (by kernel_rfl) ?_ (Or.inr ⟨?_, rfl⟩) hHeld ?_
      rotate_left 1
      · rw [List.getElem?_toArray]; rfl
      · exact fun _ _ _ h => h
      · rfl
      try simp only [Act.put, List.setIfInBounds_toArray, List.set_cons_zero, List.set_cons_succ]
      refine wpAnyH_take (i := 19) (oi := ?_) (v := undef) ?_ (by kernel_rfl) (by kernel_rfl) (by kernel_rfl) ?_ (Or.inr ⟨?_, rfl⟩) hHeld ?_
      rotate_left 1
      · rw [List.getElem?_toArray]; rfl
      · exact fun _ _ _ h => h
      · rfl
      try simp only [Act.put, List.setIfInBounds_toArray, List.set_cons_zero, List.set_cons_succ]
      refine wpAnyH_take (i := 20) (oi := ?_) (v := undef) ?_ (by kernel_rfl) (by kernel_rfl) (by kernel_rfl) ?_ (Or.inr ⟨?_, rfl⟩) hHeld ?_
      rotate_left 1
      · rw [List.getElem?_toArray]; rfl
      · exact fun _ _ _ h => h
      · rfl
      try simp only [Act.put, List.setIfInBounds_toArray, List.set_cons_zero, List.set_cons_succ]
      refine wpAnyH_take (i := 21) (oi := ?_) (v := undef) ?_ (by kernel_rfl) (by kernel_rfl) (by kernel_rfl) ?_ (Or.inr ⟨?_, rfl⟩) hHeld ?_
      rotate_left 1
      · rw [List.getElem?_toArray]; rfl
      · exact fun _ _ _ h => h
      · rfl
      try simp only [Act.put, List.setIfInBounds_toArray, List.set_cons_zero, List.set_cons_succ]
      refine wpAnyH_take (i := 22) (oi := ?_) (v := ?_) ?_ (by kernel_rfl) (by kernel_rfl) (by kernel_rfl) ?_ (Or.inl ⟨?_, ?_⟩) hHeld ?_
      rotate_left 2
      · rw [List.getElem?_toArray]; rfl
      · exact fun _ _ _ h => h
      · rfl
      · intro w' hSw
        go_simp
        try with_reducible rfl
      try simp only [Act.put, List.setIfInBounds_toArray, List.set_cons_zero, List.set_cons_succ]
      refine wpAnyH_take (i := 23) (oi := ?_) (v := ?_) ?_ (by kernel_rfl) (by kernel_rfl) (by kernel_rfl) ?_ (Or.inl ⟨?_, ?_⟩) hHeld ?_
      rotate_left 2
      · rw [List.getElem?_toArray]; rfl
      · exact fun _ _ _ h => h
      · rfl
      · intro w' hSw
        go_simp
        try with_reducible rfl
      try simp only [Act.put, List.setIfInBounds_toArray, List.set_cons_zero, List.set_cons_succ]
      refine wpAnyH_done (by kernel_rfl) ?_ _
      go_wp2_with fail
      go_ret
      exact ⟨by first | rfl | simp, hHeld⟩
    | true =>
      go_wp2_with fail
      refine wp_region_held_drew (S := fun w' => w.grownBy w' none) (by kernel_rfl) G0 (fun hHeld => ?_)
      refine wpAnyH_take (i := 0) (oi := ?_) (v := ?_) ?_ (by kernel_rfl) (by kernel_rfl) (by kernel_rfl) ?_ (Or.inl ⟨?_, ?_⟩) hHeld ?_
      rotate_left 2
      · rw [List.getElem?_toArray]; rfl
      · exact fun _ _ _ h => h
      · rfl
      · intro w' hSw
        go_simp
        try with_reducible rfl
      try simp only [Act.put, List.setIfInBounds_toArray, List.set_cons_zero, List.set_cons_succ]
      refine wpAnyH_take (i := 1) (oi := ?_) (v := ?_) ?_ (by kernel_rfl) (by kernel_rfl) (by kernel_rfl) ?_ (Or.inl ⟨?_, ?_⟩) hHeld ?_
      rotate_left 2
      · rw [List.getElem?_toArray]; rfl
      · exact fun _ _ _ h => h
      · rfl
      · intro w' hSw
        have hcv := CS.out _ hSw
        go_simp
        try with_reducible rfl
      try simp only [Act.put, List.setIfInBounds_toArray, List.set_cons_zero, List.set_cons_succ]
      refine wpAnyH_ready (rs := [2]) (by kernel_rfl) (by simp) ?_
      refine AllReadyH.cons (o := ?_) ?_ (fun K hK => ?_) AllReadyH.nil
      rotate_left 1
      · rw [List.getElem?_toArray]; rfl
      go_simp
      go_wp2_with (go_at_call 18; refine (CV1.out _ hHeld).mono ?_; rintro e W1 ⟨rfl, hg1⟩)
      refine hK.out _ _ ?_ (fun hHeld => ?_)
      · exact gtrans hHeld hg1
      clear hK K
      refine wpAnyH_take (i := 3) (oi := ?_) (v := ?_) ?_ (by kernel_rfl) (by kernel_rfl) (by kernel_rfl) ?_ (Or.inl ⟨?_, ?_⟩) hHeld ?_
      rotate_left 2
      · rw [List.getElem?_toArray]; rfl
      · exact fun _ _ _ h => h
      · rfl
      · intro w' hSw
        go_simp
        try with_reducible rfl
      try simp only [Act.put, List.setIfInBounds_toArray, List.set_cons_zero, List.set_cons_succ]
      refine wpAnyH_take (i := 4) (oi := ?_) (v := ?_) ?_ (by kernel_rfl) (by kernel_rfl) (by kernel_rfl) ?_ (Or.inl ⟨?_, ?_⟩) hHeld ?_
      rotate_left 2
      · rw [List.getElem?_toArray]; rfl
      · exact fun _ _ _ h => h
      · rfl
      · intro w' hSw
        go_simp
        try with_reducible rfl
      try simp only [Act.put, List.setIfInBounds_toArray, List.set_cons_zero, List.set_cons_succ]
      refine wpAnyH_take (i := 5) (oi := ?_) (v := ?_) ?_ (by kernel_rfl) (by kernel_rfl) (by kernel_rfl) ?_ (Or.inl ⟨?_, ?_⟩) hHeld ?_
      rotate_left 2
      · rw [List.getElem?_toArray]; rfl
      · exact fun _ _ _ h => h
      · rfl
      · intro w' hSw
        go_simp
        try with_reducible rfl
      try simp only [Act.put, List.setIfInBounds_toArray, List.set_cons_zero, List.set_cons_succ]
      refine wpAnyH_take (i := 6) (oi := ?_) (v := ?_) ?_ (by kernel_rfl) (by kernel_rfl) (by kernel_rfl) ?_ (Or.inl ⟨?_, ?_⟩) hHeld ?_
      rotate_left 2
      · rw [List.getElem?_toArray]; rfl
      · exact fun _ _ _ h => h
      · rfl
      · intro w' hSw
        have hcv := CT.out _ hSw
        go_simp
        try with_reducible rfl
      try simp only [Act.put, List.setIfInBounds_toArray, List.set_cons_zero, List.set_cons_succ]
      refine wpAnyH_ready (rs := [7]) (by kernel_rfl) (by simp) ?_
      refine AllReadyH.cons (o := ?_) ?_ (fun K hK => ?_) AllReadyH.nil
      rotate_left 1
      · rw [List.getElem?_toArray]; rfl
      go_simp
      go_wp2_with (go_at_call 18; refine (CV2.out _ hHeld).mono ?_; rintro e W2 ⟨rfl, hg2⟩)
      refine hK.out _ _ ?_ (fun hHeld => ?_)
      · exact gtrans hHeld hg2
      clear hK K
      refine wpAnyH_take (i := 8) (oi := ?_) (v := ?_) ?_ (by kernel_rfl) (by kernel_rfl) (by kernel_rfl) ?_ (Or.inl ⟨?_, ?_⟩) hHeld ?_
      rotate_left 2
      · rw [List.getElem?_toArray]; rfl
      · exact fun _ _ _ h => h
      · rfl
      · intro w' hSw
        go_simp
        try with_reducible rfl
      try simp only [Act.put, List.setIfInBounds_toArray, List.set_cons_zero, List.set_cons_succ]
      refine wpAnyH_take (i := 9) (oi := ?_) (v := ?_) ?_ (by kernel_rfl) (by kernel_rfl) (by kernel_rfl) ?_ (Or.inl ⟨?_, ?_⟩) hHeld ?_
      rotate_left 2
      · rw [List.getElem?_toArray]; rfl
      · exact fun _ _ _ h => h
      · rfl
      · intro w' hSw
        go_simp
        try with_reducible rfl
      try simp only [Act.put, List.setIfInBounds_toArray, List.set_cons_zero, List.set_cons_succ]
      refine wpAnyH_take (i := 10) (oi := ?_) (v := ?_) ?_ (by kernel_rfl) (by kernel_rfl) (by kernel_rfl) ?_ (Or.inl ⟨?_, ?_⟩) hHeld ?_
      rotate_left 2
      · rw [List.getElem?_toArray]; rfl
      · exact fun _ _ _ h => h
      · rfl
      · intro w' hSw
        go_simp
        try with_reducible rfl
      try simp only [Act.put, List.setIfInBounds_toArray, List.set_cons_zero, List.set_cons_succ]
      refine wpAnyH_take (i := 11) (oi := ?_) (v := ?_) ?_ (by kernel_rfl) (by kernel_rfl) (by kernel_rfl) ?_ (Or.inl ⟨?_, ?_⟩) hHeld ?_
      rotate_left 2
      · rw [List.getElem?_toArray]; rfl
      · exact fun _ _ _ h => h
      · rfl
      · intro w' hSw
        go_simp
        try with_reducible rfl
      try simp only [Act.put, List.setIfInBounds_toArray, List.set_cons_zero, List.set_cons_succ]
      refine wpAnyH_take (i := 12) (oi := ?_) (v := ?_) ?_ (by kernel_rfl) (by kernel_rfl) (by kernel_rfl) ?_ (Or.inl ⟨?_, ?_⟩) hHeld ?_
      rotate_left 2
      · rw [List.getElem?_toArray]; rfl
      · exact fun _ _ _ h => h
      · rfl
      · intro w' hSw
        go_simp
        try with_reducible rfl
      try simp only [Act.put, List.setIfInBounds_toArray, List.set_cons_zero, List.set_cons_succ]
      refine wpAnyH_take (i := 14) (oi := ?_) (v := ?_) ?_ (by kernel_rfl) (by kernel_rfl) (by kernel_rfl) ?_ (Or.inl ⟨?_, ?_⟩) hHeld ?_
      rotate_left 2
      · rw [List.getElem?_toArray]; rfl
      · exact fun _ _ _ h => h
      · rfl
      · intro w' hSw
        go_simp
        try with_reducible rfl
      try simp only [Act.put, List.setIfInBounds_toArray, List.set_cons_zero, List.set_cons_succ]
      refine wpAnyH_take (i := 15) (oi := ?_) (v := ?_) ?_ (by kernel_rfl) (by kernel_rfl) (by kernel_rfl) ?_ (Or.inl ⟨?_, ?_⟩) hHeld ?_
      rotate_left 2
      · rw [List.getElem?_toArray]; rfl
      · exact fun _ _ _ h => h
      · rfl
      · intro w' hSw
        have hcv := CS.out _ hSw
        go_simp
        try with_reducible rfl
      try simp only [Act.put, List.setIfInBounds_toArray, List.set_cons_zero, List.set_cons_succ]
      refine wpAnyH_take (i := 17) (oi := ?_) (v := ?_) ?_ (by kernel_rfl) (by kernel_rfl) (by kernel_rfl) ?_ (Or.inl ⟨?_, ?_⟩) hHeld ?_
      rotate_left 2
      · rw [List.getElem?_toArray]; rfl
      · exact fun _ _ _ h => h
      · rfl
      · intro w' hSw
        go_simp
        try with_reducible rfl
      try simp only [Act.put, List.setIfInBounds_toArray, List.set_cons_zero, List.set_cons_succ]
      refine wpAnyH_take (i := 18) (oi := ?_) (v := ?_) ?_ (by kernel_rfl) (by kernel_rfl) (by kernel_rfl) ?_ (Or.inl ⟨?_, ?_⟩) hHeld ?_
      rotate_left 2
      · rw [List.getElem?_toArray]; rfl
      · exact fun _ _ _ h => h
      · rfl
      · intro w' hSw
        have hcv := CT.out _ hSw
        go_simp
        try with_reducible rfl
      try simp only [Act.put, List.setIfInBounds_toArray, List.set_cons_zero, List.set_cons_succ]
      refine wpAnyH_ready (rs := [13]) (by kernel_rfl) (by simp) ?_
      refine AllReadyH.cons (o := ?_) ?_ (fun K hK => ?_) AllReadyH.nil
      rotate_left 1
      · rw [List.getElem?_toArray]; rfl
      go_simp
      go_wp2_with (go_at_call 22; refine (CE.out _ hHeld).mono ?_; rintro e V1 ⟨rfl, hv1⟩)
      refine hK.out _ _ ?_ (fun hHeld => ?_)
      · exact gtrans hHeld hv1
      clear hK K
      refine wpAnyH_ready (rs := [16]) (by kernel_rfl) (by simp) ?_
      refine AllReadyH.cons (o := ?_) ?_ (fun K hK => ?_) AllReadyH.nil
      rotate_left 1
      · rw [List.getElem?_toArray]; rfl
      go_simp
      go_wp2_with (go_at_call 19; refine (CC1.out _).mono ?_; rintro e V2 ⟨g1, d1, rfl, hO2, hv2⟩)
      refine hK.out _ _ ?_ (fun hHeld => ?_)
      · exact gtrans hHeld hv2
      clear hK K
      refine wpAnyH_ready (rs := [19]) (by kernel_rfl) (by simp) ?_
      refine AllReadyH.cons (o := ?_) ?_ (fun K hK => ?_) AllReadyH.nil
      rotate_left 1
      · rw [List.getElem?_toArray]; rfl
      go_simp
      go_wp2_with (go_at_call 19; refine (CC2.out _).mono ?_; rintro e V3 ⟨g2, d2, rfl, hO3, hv3⟩)
      refine hK.out _ _ ?_ (fun hHeld => ?_)
      · exact gtrans hHeld hv3
      clear hK K
      refine wpAnyH_ready (rs := [20]) (by kernel_rfl) (by simp) ?_
      refine AllReadyH.cons (o := ?_) ?_ (fun K hK => ?_) AllReadyH.nil
      rotate_left 1
      · rw [List.getElem?_toArray]; rfl
      go_simp
      go_wp2_with (go_at_call 21; refine (CK.out _ _ _ _ _ hHeld ((runesAt_of hO2).grown hv3) (runesAt_of hO3)).mono ?_; rintro e V4 ⟨rfl, hv4⟩)
      refine hK.out _ _ ?_ (fun hHeld => ?_)
      · exact gtrans hHeld hv4
      clear hK K
      refine wpAnyH_take (i := 21) (oi := ?_) (v := ?_) ?_ (by kernel_rfl) (by kernel_rfl) (by kernel_rfl) ?_ (Or.inl ⟨?_, ?_⟩) hHeld ?_
      rotate_left 2
      · rw [List.getElem?_toArray]; rfl
      · exact fun _ _ _ h => h
      · rfl
      · intro w' hSw
        go_simp
        try with_reducible rfl
      try simp only [Act.put, List.setIfInBounds_toArray, List.set_cons_zero, List.set_cons_succ]
      refine wpAnyH_take (i := 22) (oi := ?_) (v := ?_) ?_ (by kernel_rfl) (by kernel_rfl) (by kernel_rfl) ?_ (Or.inl ⟨?_, ?_⟩) hHeld ?_
      rotate_left 2
      · rw [List.getElem?_toArray]; rfl
      · exact fun _ _ _ h => h
      · rfl
      · intro w' hSw
        go_simp
        try with_reducible rfl
      try simp only [Act.put, List.setIfInBounds_toArray, List.set_cons_zero, List.set_cons_succ]
      refine wpAnyH_take (i := 23) (oi := ?_) (v := ?_) ?_ (by kernel_rfl) (by kernel_rfl) (by kernel_rfl) ?_ (Or.inl ⟨?_, ?_⟩) hHeld ?_
      rotate_left 2
      · rw [List.getElem?_toArray]; rfl
      · exact fun _ _ _ h => h
      · rfl
      · intro w' hSw
        go_simp
        try with_reducible rfl
      try simp only [Act.put, List.setIfInBounds_toArray, List.set_cons_zero, List.set_cons_succ]
      refine wpAnyH_done (by kernel_rfl) ?_ _
      go_wp2_with fail
      go_ret
      exact ⟨by first | rfl | simp, hHeld⟩

end Go.Proofs.YtgljpgnmlpglnaaDoor
