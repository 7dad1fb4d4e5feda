/- The exact law on Map of bytes that are valid UTF-8. Written by gen_lawmap.py. -/
import Derived.Test.YtdibpklbkcmhiaaDoorLawMap
import Derived.Test.YtdibpklbkcmhiaaDoorReg
namespace Go.Proofs.YtdibpklbkcmhiaaDoor
open Go.Shelf Go.RowKit Go.Lib Go.Ftx

set_option maxHeartbeats 8000000 in
theorem exMapBytesValid_walk (w : World) (T : List (Int × Int)) (tv : Value) (hTT : RulesL w tv T ∧ okT T) (keep : Bool) (rest : Int) (hr : (Lit.int .i32 rest).wf = true) (l : List UInt8) (sv : Value) (hB : BytesL w sv l) (hU : Utf8T w) (hn : T.length ≤ 1048576) (hs : l.length ≤ 1048576) :
    Calls Tryd.prog 4 #[tv, .bool keep, .int .i32 rest, sv] w (TruePost w) := by
  obtain ⟨hr0, hr1⟩ := wf_i32 hr
  obtain ⟨hT, hok⟩ := hTT
  have cMB : ∀ W, w.grownBy W none → Calls Tryd.prog 12 #[tv, .bool keep, .int .i32 rest, sv] W (NewBytes W (mapD (imgT T keep rest) l)) := fun W hg =>
    implMapB_any tv T keep rest sv l W (hT.kept hg) hok hr0 hr1 (hB.kept hg) (by omega) (hU.grown hg)
  have cSR : ∀ W, w.grownBy W none → Calls Tryd.prog 14 #[tv] W fun e w' => ∃ v', e = .returned v' ∧ RulesL w' v' T ∧ W.grownBy w' none := fun W hg => specRules_is tv T W (hT.kept hg) (by omega)
  have hz : (⟨l.toArray⟩ : ByteArray).size = l.length := by show l.toArray.size = _; simp
  have cSM : ∀ W v', RulesL W v' T → Calls Tryd.prog 13 #[v', .bool keep, .int .i32 rest, .string ⟨l.toArray⟩] W (StrPost W (mapD (imgT T keep rest) l)) := fun W v' hR =>
    specMap_any v' T keep rest ⟨l.toArray⟩ W hR hok hr0 hr1 (by rw [hz]; omega)
  have cv : ∀ W, w.grownBy W none → (convert 23 9 sv).run Tryd.prog W = .ok (.string ⟨l.toArray⟩) W := fun W hg => bytes_str (hB.kept hg)
  have cVA : ∀ W, w.grownBy W none → Calls Tryd.prog 15 #[.string ⟨l.toArray⟩] W (BoolPost W (Lib.validD l)) := fun W hg => valid_any ⟨l.toArray⟩ W (by rw [hz]; omega) (hU.grown hg)
  have cPR : ∀ W v', RulesL W v' T → Calls Tryd.prog 16 #[v', .bool keep, .int .i32 rest] W (BoolPost W (properT T keep rest)) := fun W v' hR => proper_any v' T keep rest W hR
  obtain ⟨ta, tc, rfl, -, -⟩ := hT.form
  obtain ⟨a2, n2, c2, rfl⟩ : ∃ a n c, sv = .slice a n c := by
    rcases hB with ⟨a, c, rfl, -⟩ | ⟨b, o, c, rfl, -⟩
    · exact ⟨_, _, _, rfl⟩
    · exact ⟨_, _, _, rfl⟩
  have CMB := Lib.hid cMB
  have CSR := Lib.hid cSR
  have CSM := Lib.hid cSM
  have CV := Lib.hid cv
  have CVA := Lib.hid cVA
  have CPR := Lib.hid cPR
  clear cVA cPR
  clear cMB cSR cSM cv hT hB hU hok hz hs hr0 hr1 hn hr
  generalize mapD (imgT T keep rest) l = OUT at *
  generalize T.length = tn at *
  generalize hv : Lib.validD l = VA at *
  generalize hp : properT T keep rest = PR at *
  clear hv hp
  generalize (⟨l.toArray⟩ : ByteArray) = S at *
  go_enter Tryd.func4, Tryd.ntmps4
  go_wp2_with fail
  refine (CSR.out _ (grefl w none)).mono ?_
  rintro e W1 ⟨v2, rfl, hR1, hg1⟩
  have G1 : w.grownBy W1.drew none := gdrew hg1
  have hR1' := Lib.hid (show RulesL W1.drew v2 T from hR1.kept (gdrew (grefl W1 none)))
  clear hg1 hR1
  cases VA with
  | false =>
    go_wp2_with fail
    refine wp_region_held_drew (S := fun w' => w.grownBy w' none) (by kernel_rfl) G1 (fun hHeld => ?_)
    refine wpAnyH_take (i := 0) (oi := ?_) (v := ?_) ?_ (by kernel_rfl) (by kernel_rfl) (by kernel_rfl) ?_ (Or.inl ⟨?_, ?_⟩) hHeld ?_
    rotate_left 2
    · rw [List.getElem?_toArray]; rfl
    · exact fun _ _ _ h => h
    · rfl
    · intro w' hSw
      go_simp
      try with_reducible rfl
    try simp only [Act.put, List.setIfInBounds_toArray, List.set_cons_zero, List.set_cons_succ]
    refine wpAnyH_take (i := 1) (oi := ?_) (v := ?_) ?_ (by kernel_rfl) (by kernel_rfl) (by kernel_rfl) ?_ (Or.inl ⟨?_, ?_⟩) hHeld ?_
    rotate_left 2
    · rw [List.getElem?_toArray]; rfl
    · exact fun _ _ _ h => h
    · rfl
    · intro w' hSw
      have hcv := CV.out _ hSw
      go_simp
      try with_reducible rfl
    try simp only [Act.put, List.setIfInBounds_toArray, List.set_cons_zero, List.set_cons_succ]
    refine wpAnyH_ready (rs := [2]) (by kernel_rfl) (by simp) ?_
    refine AllReadyH.cons (o := ?_) ?_ (fun K hK => ?_) AllReadyH.nil
    rotate_left 1
    · rw [List.getElem?_toArray]; rfl
    go_simp
    go_wp2_with (go_at_call 15; refine (CVA.out _ hHeld).mono ?_; rintro e W2 ⟨rfl, hg2⟩)
    refine hK.out _ _ ?_ (fun hHeld => ?_)
    · exact gtrans hHeld hg2
    clear hK K
    refine wpAnyH_take (i := 3) (oi := ?_) (v := ?_) ?_ (by kernel_rfl) (by kernel_rfl) (by kernel_rfl) ?_ (Or.inl ⟨?_, ?_⟩) hHeld ?_
    rotate_left 2
    · rw [List.getElem?_toArray]; rfl
    · exact fun _ _ _ h => h
    · rfl
    · intro w' hSw
      go_simp
      try with_reducible rfl
    try simp only [Act.put, List.setIfInBounds_toArray, List.set_cons_zero, List.set_cons_succ]
    refine wpAnyH_take (i := 4) (oi := ?_) (v := ?_) ?_ (by kernel_rfl) (by kernel_rfl) (by kernel_rfl) ?_ (Or.inl ⟨?_, ?_⟩) hHeld ?_
    rotate_left 2
    · rw [List.getElem?_toArray]; rfl
    · exact fun _ _ _ h => h
    · rfl
    · intro w' hSw
      go_simp
      try with_reducible rfl
    try simp only [Act.put, List.setIfInBounds_toArray, List.set_cons_zero, List.set_cons_succ]
    refine wpAnyH_take (i := 5) (oi := ?_) (v := undef) ?_ (by kernel_rfl) (by kernel_rfl) (by kernel_rfl) ?_ (Or.inr ⟨?_, rfl⟩) hHeld ?_
    rotate_left 1
    · rw [List.getElem?_toArray]; rfl
    · exact fun _ _ _ h => h
    · rfl
    try simp only [Act.put, List.setIfInBounds_toArray, List.set_cons_zero, List.set_cons_succ]
    refine wpAnyH_take (i := 6) (oi := ?_) (v := undef) ?_ (by kernel_rfl) (by kernel_rfl) (by kernel_rfl) ?_ (Or.inr ⟨?_, rfl⟩) hHeld ?_
    rotate_left 1
    · rw [List.getElem?_toArray]; rfl
    · exact fun _ _ _ h => h
    · rfl
    try simp only [Act.put, List.setIfInBounds_toArray, List.set_cons_zero, List.set_cons_succ]
    refine wpAnyH_take (i := 7) (oi := ?_) (v := undef) ?_ (by kernel_rfl) (by kernel_rfl) (by kernel_rfl) ?_ (Or.inr ⟨?_, rfl⟩) hHeld ?_
    rotate_left 1
    · rw [List.getElem?_toArray]; rfl
    · exact fun _ _ _ h => h
    · rfl
    try simp only [Act.put, List.setIfInBounds_toArray, List.set_cons_zero, List.set_cons_succ]
    refine wpAnyH_take (i := 8) (oi := ?_) (v := undef) ?_ (by kernel_rfl) (by kernel_rfl) (by kernel_rfl) ?_ (Or.inr ⟨?_, rfl⟩) hHeld ?_
    rotate_left 1
    · rw [List.getElem?_toArray]; rfl
    · exact fun _ _ _ h => h
    · rfl
    try simp only [Act.put, List.setIfInBounds_toArray, List.set_cons_zero, List.set_cons_succ]
    refine wpAnyH_take (i := 9) (oi := ?_) (v := undef) ?_ (by kernel_rfl) (by kernel_rfl) (by kernel_rfl) ?_ (Or.inr ⟨?_, rfl⟩) hHeld ?_
    rotate_left 1
    · rw [List.getElem?_toArray]; rfl
    · exact fun _ _ _ h => h
    · rfl
    try simp only [Act.put, List.setIfInBounds_toArray, List.set_cons_zero, List.set_cons_succ]
    refine wpAnyH_take (i := 10) (oi := ?_) (v := ?_) ?_ (by kernel_rfl) (by kernel_rfl) (by kernel_rfl) ?_ (Or.inl ⟨?_, ?_⟩) hHeld ?_
    rotate_left 2
    · rw [List.getElem?_toArray]; rfl
    · exact fun _ _ _ h => h
    · rfl
    · intro w' hSw
      go_simp
      try with_reducible rfl
    try simp only [Act.put, List.setIfInBounds_toArray, List.set_cons_zero, List.set_cons_succ]
    refine wpAnyH_take (i := 11) (oi := ?_) (v := ?_) ?_ (by kernel_rfl) (by kernel_rfl) (by kernel_rfl) ?_ (Or.inl ⟨?_, ?_⟩) hHeld ?_
    rotate_left 2
    · rw [List.getElem?_toArray]; rfl
    · exact fun _ _ _ h => h
    · rfl
    · intro w' hSw
      go_simp
      try with_reducible rfl
    try simp only [Act.put, List.setIfInBounds_toArray, List.set_cons_zero, List.set_cons_succ]
    refine wpAnyH_take (i := 12) (oi := ?_) (v := undef) ?_ (by kernel_rfl) (by kernel_rfl) (by kernel_rfl) ?_ (Or.inr ⟨?_, rfl⟩) hHeld ?_
    rotate_left 1
    · rw [List.getElem?_toArray]; rfl
    · exact fun _ _ _ h => h
    · rfl
    try simp only [Act.put, List.setIfInBounds_toArray, List.set_cons_zero, List.set_cons_succ]
    refine wpAnyH_take (i := 13) (oi := ?_) (v := undef) ?_ (by kernel_rfl) (by kernel_rfl) (by kernel_rfl) ?_ (Or.inr ⟨?_, rfl⟩) hHeld ?_
    rotate_left 1
    · rw [List.getElem?_toArray]; rfl
    · exact fun _ _ _ h => h
    · rfl
    try simp only [Act.put, List.setIfInBounds_toArray, List.set_cons_zero, List.set_cons_succ]
    refine wpAnyH_take (i := 14) (oi := ?_) (v := undef) ?_ (by kernel_rfl) (by kernel_rfl) (by kernel_rfl) ?_ (Or.inr ⟨?_, rfl⟩) hHeld ?_
    rotate_left 1
    · rw [List.getElem?_toArray]; rfl
    · exact fun _ _ _ h => h
    · rfl
    try simp only [Act.put, List.setIfInBounds_toArray, List.set_cons_zero, List.set_cons_succ]
    refine wpAnyH_take (i := 15) (oi := ?_) (v := undef) ?_ (by kernel_rfl) (by kernel_rfl) (by kernel_rfl) ?_ (Or.inr ⟨?_, rfl⟩) hHeld ?_
    rotate_left 1
    · rw [List.getElem?_toArray]; rfl
    · exact fun _ _ _ h => h
    · rfl
    try simp only [Act.put, List.setIfInBounds_toArray, List.set_cons_zero, List.set_cons_succ]
    refine wpAnyH_take (i := 16) (oi := ?_) (v := undef) ?_ (by kernel_rfl) (by kernel_rfl) (by kernel_rfl) ?_ (Or.inr ⟨?_, rfl⟩) hHeld ?_
    rotate_left 1
    · rw [List.getElem?_toArray]; rfl
    · exact fun _ _ _ h => h
    · rfl
    try simp only [Act.put, List.setIfInBounds_toArray, List.set_cons_zero, List.set_cons_succ]
    refine wpAnyH_take (i := 17) (oi := ?_) (v := undef) ?_ (by kernel_rfl) (by kernel_rfl) (by kernel_rfl) ?_ (Or.inr ⟨?_, rfl⟩) hHeld ?_
    rotate_left 1
    · rw [List.getElem?_toArray]; rfl
    · exact fun _ _ _ h => h
    · rfl
    try simp only [Act.put, List.setIfInBounds_toArray, List.set_cons_zero, List.set_cons_succ]
    refine wpAnyH_take (i := 18) (oi := ?_) (v := undef) ?_ (by kernel_rfl) (by kernel_rfl) (by kernel_rfl) ?_ (Or.inr ⟨?_, rfl⟩) hHeld ?_
    rotate_left 1
    · rw [List.getElem?_toArray]; rfl
    · exact fun _ _ _ h => h
    · rfl
    try simp only [Act.put, List.setIfInBounds_toArray, List.set_cons_zero, List.set_cons_succ]
    refine wpAnyH_take (i := 19) (oi := ?_) (v := undef) ?_ (by kernel_rfl) (by kernel_rfl) (by kernel_rfl) ?_ (Or.inr ⟨?_, rfl⟩) hHeld ?_
    rotate_left 1
    · rw [List.getElem?_toArray]; rfl
    · exact fun _ _ _ h => h
    · rfl
    try simp only [Act.put, List.setIfInBounds_toArray, List.set_cons_zero, List.set_cons_succ]
    refine wpAnyH_take (i := 20) (oi := ?_) (v := undef) ?_ (by kernel_rfl) (by kernel_rfl) (by kernel_rfl) ?_ (Or.inr ⟨?_, rfl⟩) hHeld ?_
    rotate_left 1
    · rw [List.getElem?_toArray]; rfl
    · exact fun _ _ _ h => h
    · rfl
    try simp only [Act.put, List.setIfInBounds_toArray, List.set_cons_zero, List.set_cons_succ]
    refine wpAnyH_take (i := 21) (oi := ?_) (v := undef) ?_ (by kernel_rfl) (by kernel_rfl) (by kernel_rfl) ?_ (Or.inr ⟨?_, rfl⟩) hHeld ?_
    rotate_left 1
    · rw [List.getElem?_toArray]; rfl
    · exact fun _ _ _ h => h
    · rfl
    try simp only [Act.put, List.setIfInBounds_toArray, List.set_cons_zero, List.set_cons_succ]
    refine wpAnyH_take (i := 22) (oi := ?_) (v := undef) ?_ (by kernel_rfl) (by kernel_rfl) (by kernel_rfl) ?_ (Or.inr ⟨?_, rfl⟩) hHeld ?_
    rotate_left 1
    · rw [List.getElem?_toArray]; rfl
    · exact fun _ _ _ h => h
    · rfl
    try simp only [Act.put, List.setIfInBounds_toArray, List.set_cons_zero, List.set_cons_succ]
    refine wpAnyH_take (i := 23) (oi := ?_) (v := undef) ?_ (by kernel_rfl) (by kernel_rfl) (by kernel_rfl) ?_ (Or.inr ⟨?_, rfl⟩) hHeld ?_
    rotate_left 1
    · rw [List.getElem?_toArray]; rfl
    · exact fun _ _ _ h => h
    · rfl
    try simp only [Act.put, List.setIfInBounds_toArray, List.set_cons_zero, List.set_cons_succ]
    refine wpAnyH_take (i := 24) (oi := ?_) (v := undef) ?_ (by kernel_rfl) (by kernel_rfl) (by kernel_rfl) ?_ (Or.inr ⟨?_, rfl⟩) hHeld ?_
    rotate_left 1
    · rw [List.getElem?_toArray]; rfl
    · exact fun _ _ _ h => h
    · rfl
    try simp only [Act.put, List.setIfInBounds_toArray, List.set_cons_zero, List.set_cons_succ]
    refine wpAnyH_take (i := 25) (oi := ?_) (v := ?_) ?_ (by kernel_rfl) (by kernel_rfl) (by kernel_rfl) ?_ (Or.inl ⟨?_, ?_⟩) hHeld ?_
    rotate_left 2
    · rw [List.getElem?_toArray]; rfl
    · exact fun _ _ _ h => h
    · rfl
    · intro w' hSw
      go_simp
      try with_reducible rfl
    try simp only [Act.put, List.setIfInBounds_toArray, List.set_cons_zero, List.set_cons_succ]
    refine wpAnyH_take (i := 26) (oi := ?_) (v := ?_) ?_ (by kernel_rfl) (by kernel_rfl) (by kernel_rfl) ?_ (Or.inl ⟨?_, ?_⟩) hHeld ?_
    rotate_left 2
    · rw [List.getElem?_toArray]; rfl
    · exact fun _ _ _ h => h
    · rfl
    · intro w' hSw
      go_simp
      try with_reducible rfl
    try simp only [Act.put, List.setIfInBounds_toArray, List.set_cons_zero, List.set_cons_succ]
    refine wpAnyH_done (by kernel_rfl) ?_ _
    go_wp2_with fail
    go_ret
    exact ⟨by first | rfl | simp, hHeld⟩
  | true =>
    cases PR with
    | false =>
      go_wp2_with fail
      refine wp_region_held_drew (S := fun w' => w.grownBy w' none) (by kernel_rfl) G1 (fun hHeld => ?_)
      refine wpAnyH_take (i := 0) (oi := ?_) (v := ?_) ?_ (by kernel_rfl) (by kernel_rfl) (by kernel_rfl) ?_ (Or.inl ⟨?_, ?_⟩) hHeld ?_
      rotate_left 2
      · rw [List.getElem?_toArray]; rfl
      · exact fun _ _ _ h => h
      · rfl
      · intro w' hSw
        go_simp
        try with_reducible rfl
      try simp only [Act.put, List.setIfInBounds_toArray, List.set_cons_zero, List.set_cons_succ]
      refine wpAnyH_take (i := 1) (oi := ?_) (v := ?_) ?_ (by kernel_rfl) (by kernel_rfl) (by kernel_rfl) ?_ (Or.inl ⟨?_, ?_⟩) hHeld ?_
      rotate_left 2
      · rw [List.getElem?_toArray]; rfl
      · exact fun _ _ _ h => h
      · rfl
      · intro w' hSw
        have hcv := CV.out _ hSw
        go_simp
        try with_reducible rfl
      try simp only [Act.put, List.setIfInBounds_toArray, List.set_cons_zero, List.set_cons_succ]
      refine wpAnyH_ready (rs := [2]) (by kernel_rfl) (by simp) ?_
      refine AllReadyH.cons (o := ?_) ?_ (fun K hK => ?_) AllReadyH.nil
      rotate_left 1
      · rw [List.getElem?_toArray]; rfl
      go_simp
      go_wp2_with (go_at_call 15; refine (CVA.out _ hHeld).mono ?_; rintro e W2 ⟨rfl, hg2⟩)
      refine hK.out _ _ ?_ (fun hHeld => ?_)
      · exact gtrans hHeld hg2
      clear hK K
      refine wpAnyH_take (i := 3) (oi := ?_) (v := ?_) ?_ (by kernel_rfl) (by kernel_rfl) (by kernel_rfl) ?_ (Or.inl ⟨?_, ?_⟩) hHeld ?_
      rotate_left 2
      · rw [List.getElem?_toArray]; rfl
      · exact fun _ _ _ h => h
      · rfl
      · intro w' hSw
        go_simp
        try with_reducible rfl
      try simp only [Act.put, List.setIfInBounds_toArray, List.set_cons_zero, List.set_cons_succ]
      refine wpAnyH_take (i := 4) (oi := ?_) (v := ?_) ?_ (by kernel_rfl) (by kernel_rfl) (by kernel_rfl) ?_ (Or.inl ⟨?_, ?_⟩) hHeld ?_
      rotate_left 2
      · rw [List.getElem?_toArray]; rfl
      · exact fun _ _ _ h => h
      · rfl
      · intro w' hSw
        go_simp
        try with_reducible rfl
      try simp only [Act.put, List.setIfInBounds_toArray, List.set_cons_zero, List.set_cons_succ]
      refine wpAnyH_take (i := 5) (oi := ?_) (v := ?_) ?_ (by kernel_rfl) (by kernel_rfl) (by kernel_rfl) ?_ (Or.inl ⟨?_, ?_⟩) hHeld ?_
      rotate_left 2
      · rw [List.getElem?_toArray]; rfl
      · exact fun _ _ _ h => h
      · rfl
      · intro w' hSw
        go_simp
        try with_reducible rfl
      try simp only [Act.put, List.setIfInBounds_toArray, List.set_cons_zero, List.set_cons_succ]
      refine wpAnyH_take (i := 6) (oi := ?_) (v := ?_) ?_ (by kernel_rfl) (by kernel_rfl) (by kernel_rfl) ?_ (Or.inl ⟨?_, ?_⟩) hHeld ?_
      rotate_left 2
      · rw [List.getElem?_toArray]; rfl
      · exact fun _ _ _ h => h
      · rfl
      · intro w' hSw
        go_simp
        try with_reducible rfl
      try simp only [Act.put, List.setIfInBounds_toArray, List.set_cons_zero, List.set_cons_succ]
      refine wpAnyH_take (i := 7) (oi := ?_) (v := ?_) ?_ (by kernel_rfl) (by kernel_rfl) (by kernel_rfl) ?_ (Or.inl ⟨?_, ?_⟩) hHeld ?_
      rotate_left 2
      · rw [List.getElem?_toArray]; rfl
      · exact fun _ _ _ h => h
      · rfl
      · intro w' hSw
        go_simp
        try with_reducible rfl
      try simp only [Act.put, List.setIfInBounds_toArray, List.set_cons_zero, List.set_cons_succ]
      refine wpAnyH_ready (rs := [8]) (by kernel_rfl) (by simp) ?_
      refine AllReadyH.cons (o := ?_) ?_ (fun K hK => ?_) AllReadyH.nil
      rotate_left 1
      · rw [List.getElem?_toArray]; rfl
      go_simp
      go_wp2_with (go_at_call 16; refine (CPR.out _ _ (hR1'.out.kept hg2)).mono ?_; rintro e W3 ⟨rfl, hg3⟩)
      refine hK.out _ _ ?_ (fun hHeld => ?_)
      · exact gtrans hHeld hg3
      clear hK K
      refine wpAnyH_take (i := 9) (oi := ?_) (v := ?_) ?_ (by kernel_rfl) (by kernel_rfl) (by kernel_rfl) ?_ (Or.inl ⟨?_, ?_⟩) hHeld ?_
      rotate_left 2
      · rw [List.getElem?_toArray]; rfl
      · exact fun _ _ _ h => h
      · rfl
      · intro w' hSw
        go_simp
        try with_reducible rfl
      try simp only [Act.put, List.setIfInBounds_toArray, List.set_cons_zero, List.set_cons_succ]
      refine wpAnyH_take (i := 10) (oi := ?_) (v := ?_) ?_ (by kernel_rfl) (by kernel_rfl) (by kernel_rfl) ?_ (Or.inl ⟨?_, ?_⟩) hHeld ?_
      rotate_left 2
      · rw [List.getElem?_toArray]; rfl
      · exact fun _ _ _ h => h
      · rfl
      · intro w' hSw
        go_simp
        try with_reducible rfl
      try simp only [Act.put, List.setIfInBounds_toArray, List.set_cons_zero, List.set_cons_succ]
      refine wpAnyH_take (i := 11) (oi := ?_) (v := ?_) ?_ (by kernel_rfl) (by kernel_rfl) (by kernel_rfl) ?_ (Or.inl ⟨?_, ?_⟩) hHeld ?_
      rotate_left 2
      · rw [List.getElem?_toArray]; rfl
      · exact fun _ _ _ h => h
      · rfl
      · intro w' hSw
        go_simp
        try with_reducible rfl
      try simp only [Act.put, List.setIfInBounds_toArray, List.set_cons_zero, List.set_cons_succ]
      refine wpAnyH_take (i := 12) (oi := ?_) (v := undef) ?_ (by kernel_rfl) (by kernel_rfl) (by kernel_rfl) ?_ (Or.inr ⟨?_, rfl⟩) hHeld ?_
      rotate_left 1
      · rw [List.getElem?_toArray]; rfl
      · exact fun _ _ _ h => h
      · rfl
      try simp only [Act.put, List.setIfInBounds_toArray, List.set_cons_zero, List.set_cons_succ]
      refine wpAnyH_take (i := 13) (oi := ?_) (v := undef) ?_ (by kernel_rfl) (by kernel_rfl) (by kernel_rfl) ?_ (Or.inr ⟨?_, rfl⟩) hHeld ?_
      rotate_left 1
      · rw [List.getElem?_toArray]; rfl
      · exact fun _ _ _ h => h
      · rfl
      try simp only [Act.put, List.setIfInBounds_toArray, List.set_cons_zero, List.set_cons_succ]
      refine wpAnyH_take (i := 14) (oi := ?_) (v := undef) ?_ (by kernel_rfl) (by kernel_rfl) (by kernel_rfl) ?_ (Or.inr ⟨?_, rfl⟩) hHeld ?_
      rotate_left 1
      · rw [List.getElem?_toArray]; rfl
      · exact fun _ _ _ h => h
      · rfl
      try simp only [Act.put, List.setIfInBounds_toArray, List.set_cons_zero, List.set_cons_succ]
      refine wpAnyH_take (i := 15) (oi := ?_) (v := undef) ?_ (by kernel_rfl) (by kernel_rfl) (by kernel_rfl) ?_ (Or.inr ⟨?_, rfl⟩) hHeld ?_
      rotate_left 1
      · rw [List.getElem?_toArray]; rfl
      · exact fun _ _ _ h => h
      · rfl
      try simp only [Act.put, List.setIfInBounds_toArray, List.set_cons_zero, List.set_cons_succ]
      refine wpAnyH_take (i := 16) (oi := ?_) (v := undef) ?_ (by kernel_rfl) (by kernel_rfl) (by kernel_rfl) ?_ (Or.inr ⟨?_, rfl⟩) hHeld ?_
      rotate_left 1
      · rw [List.getElem?_toArray]; rfl
      · exact fun _ _ _ h => h
      · rfl
      try simp only [Act.put, List.setIfInBounds_toArray, List.set_cons_zero, List.set_cons_succ]
      refine wpAnyH_take (i := 17) (oi := ?_) (v := undef) ?_ (by kernel_rfl) (by kernel_rfl) (by kernel_rfl) ?_ (Or.inr ⟨?_, rfl⟩) hHeld ?_
      rotate_left 1
      · rw [List.getElem?_toArray]; rfl
      · exact fun _ _ _ h => h
      · rfl
      try simp only [Act.put, List.setIfInBounds_toArray, List.set_cons_zero, List.set_cons_succ]
      refine wpAnyH_take (i := 18) (oi := ?_) (v := undef) ?_ (by kernel_rfl) (by kernel_rfl) (by kernel_rfl) ?_ (Or.inr ⟨?_, rfl⟩) hHeld ?_
      rotate_left 1
      · rw [List.getElem?_toArray]; rfl
      · exact fun _ _ _ h => h
      · rfl
      try simp only [Act.put, List.setIfInBounds_toArray, List.set_cons_zero, List.set_cons_succ]
      refine wpAnyH_take (i := 19) (oi := ?_) (v := undef) ?_ (by kernel_rfl) (by kernel_rfl) (by kernel_rfl) ?_ (Or.inr ⟨?_, rfl⟩) hHeld ?_
      rotate_left 1
      · rw [List.getElem?_toArray]; rfl
      · exact fun _ _ _ h => h
      · rfl
      try simp only [Act.put, List.setIfInBounds_toArray, List.set_cons_zero, List.set_cons_succ]
      refine wpAnyH_take (i := 20) (oi := ?_) (v := undef) ?_ (by kernel_rfl) (by kernel_rfl) (by kernel_rfl) ?_ (Or.inr ⟨?_, rfl⟩) hHeld ?_
      rotate_left 1
      · rw [List.getElem?_toArray]; rfl
      · exact fun _ _ _ h => h
      · rfl
      try simp only [Act.put, List.setIfInBounds_toArray, List.set_cons_zero, List.set_cons_succ]
      refine wpAnyH_take (i := 21) (oi := ?_) (v := undef) ?_ (by kernel_rfl) (by kernel_rfl) (by kernel_rfl) ?_ (Or.inr ⟨?_, rfl⟩) hHeld ?_
      rotate_left 1
      · rw [List.getElem?_toArray]; rfl
      · exact fun _ _ _ h => h
      · rfl
      try simp only [Act.put, List.setIfInBounds_toArray, List.set_cons_zero, List.set_cons_succ]
      refine wpAnyH_take (i := 22) (oi := ?_) (v := undef) ?_ (by kernel_rfl) (by kernel_rfl) (by kernel_rfl) ?_ (Or.inr ⟨?_, rfl⟩) hHeld ?_
      rotate_left 1
      · rw [List.getElem?_toArray]; rfl
      · exact fun _ _ _ h => h
      · rfl
      try simp only [Act.put, List.setIfInBounds_toArray, List.set_cons_zero, List.set_cons_succ]
      refine wpAnyH_take (i := 23) (oi := ?_) (v := undef) ?_ (by kernel_rfl) (by kernel_rfl) (by kernel_rfl) ?_ (Or.inr ⟨?_, rfl⟩) hHeld ?_
      rotate_left 1
      · rw [List.getElem?_toArray]; rfl
      · exact fun _ _ _ h => h
      · rfl
      try simp only [Act.put, List.setIfInBounds_toArray, List.set_cons_zero, List.set_cons_succ]
      refine wpAnyH_take (i := 24) (oi := ?_) (v := undef) ?_ (by kernel_rfl) (by kernel_rfl) (by kernel_rfl) ?_ (Or.inr ⟨?_, rfl⟩) hHeld ?_
      rotate_left 1
      · rw [List.getElem?_toArray]; rfl
      · exact fun _ _ _ h => h
      · rfl
      try simp only [Act.put, List.setIfInBounds_toArray, List.set_cons_zero, List.set_cons_succ]
      refine wpAnyH_take (i := 25) (oi := ?_) (v := ?_) ?_ (by kernel_rfl) (by kernel_rfl) (by kernel_rfl) ?_ (Or.inl ⟨?_, ?_⟩) hHeld ?_
      rotate_left 2
      · rw [List.getElem?_toArray]; rfl
      · exact fun _ _ _ h => h
      · rfl
      · intro w' hSw
        go_simp
        try with_reducible rfl
      try simp only [Act.put, List.setIfInBounds_toArray, List.set_cons_zero, List.set_cons_succ]
      refine wpAnyH_take (i := 26) (oi := ?_) (v := ?_) ?_ (by kernel_rfl) (by kernel_rfl) (by kernel_rfl) ?_ (Or.inl ⟨?_, ?_⟩) hHeld ?_
      rotate_left 2
      · rw [List.getElem?_toArray]; rfl
      · exact fun _ _ _ h => h
      · rfl
      · intro w' hSw
        go_simp
        try with_reducible rfl
      try simp only [Act.put, List.setIfInBounds_toArray, List.set_cons_zero, List.set_cons_succ]
      refine wpAnyH_done (by kernel_rfl) ?_ _
      go_wp2_with fail
      go_ret
      exact ⟨by first | rfl | simp, hHeld⟩
    | true =>
      go_wp2_with fail
      refine wp_region_held_drew (S := fun w' => w.grownBy w' none) (by kernel_rfl) G1 (fun hHeld => ?_)
      refine wpAnyH_take (i := 0) (oi := ?_) (v := ?_) ?_ (by kernel_rfl) (by kernel_rfl) (by kernel_rfl) ?_ (Or.inl ⟨?_, ?_⟩) hHeld ?_
      rotate_left 2
      · rw [List.getElem?_toArray]; rfl
      · exact fun _ _ _ h => h
      · rfl
      · intro w' hSw
        go_simp
        try with_reducible rfl
      try simp only [Act.put, List.setIfInBounds_toArray, List.set_cons_zero, List.set_cons_succ]
      refine wpAnyH_take (i := 1) (oi := ?_) (v := ?_) ?_ (by kernel_rfl) (by kernel_rfl) (by kernel_rfl) ?_ (Or.inl ⟨?_, ?_⟩) hHeld ?_
      rotate_left 2
      · rw [List.getElem?_toArray]; rfl
      · exact fun _ _ _ h => h
      · rfl
      · intro w' hSw
        have hcv := CV.out _ hSw
        go_simp
        try with_reducible rfl
      try simp only [Act.put, List.setIfInBounds_toArray, List.set_cons_zero, List.set_cons_succ]
      refine wpAnyH_ready (rs := [2]) (by kernel_rfl) (by simp) ?_
      refine AllReadyH.cons (o := ?_) ?_ (fun K hK => ?_) AllReadyH.nil
      rotate_left 1
      · rw [List.getElem?_toArray]; rfl
      go_simp
      go_wp2_with (go_at_call 15; refine (CVA.out _ hHeld).mono ?_; rintro e W2 ⟨rfl, hg2⟩)
      refine hK.out _ _ ?_ (fun hHeld => ?_)
      · exact gtrans hHeld hg2
      clear hK K
      refine wpAnyH_take (i := 3) (oi := ?_) (v := ?_) ?_ (by kernel_rfl) (by kernel_rfl) (by kernel_rfl) ?_ (Or.inl ⟨?_, ?_⟩) hHeld ?_
      rotate_left 2
      · rw [List.getElem?_toArray]; rfl
      · exact fun _ _ _ h => h
      · rfl
      · intro w' hSw
        go_simp
        try with_reducible rfl
      try simp only [Act.put, List.setIfInBounds_toArray, List.set_cons_zero, List.set_cons_succ]
      refine wpAnyH_take (i := 4) (oi := ?_) (v := ?_) ?_ (by kernel_rfl) (by kernel_rfl) (by kernel_rfl) ?_ (Or.inl ⟨?_, ?_⟩) hHeld ?_
      rotate_left 2
      · rw [List.getElem?_toArray]; rfl
      · exact fun _ _ _ h => h
      · rfl
      · intro w' hSw
        go_simp
        try with_reducible rfl
      try simp only [Act.put, List.setIfInBounds_toArray, List.set_cons_zero, List.set_cons_succ]
      refine wpAnyH_take (i := 5) (oi := ?_) (v := ?_) ?_ (by kernel_rfl) (by kernel_rfl) (by kernel_rfl) ?_ (Or.inl ⟨?_, ?_⟩) hHeld ?_
      rotate_left 2
      · rw [List.getElem?_toArray]; rfl
      · exact fun _ _ _ h => h
      · rfl
      · intro w' hSw
        go_simp
        try with_reducible rfl
      try simp only [Act.put, List.setIfInBounds_toArray, List.set_cons_zero, List.set_cons_succ]
      refine wpAnyH_take (i := 6) (oi := ?_) (v := ?_) ?_ (by kernel_rfl) (by kernel_rfl) (by kernel_rfl) ?_ (Or.inl ⟨?_, ?_⟩) hHeld ?_
      rotate_left 2
      · rw [List.getElem?_toArray]; rfl
      · exact fun _ _ _ h => h
      · rfl
      · intro w' hSw
        go_simp
        try with_reducible rfl
      try simp only [Act.put, List.setIfInBounds_toArray, List.set_cons_zero, List.set_cons_succ]
      refine wpAnyH_take (i := 7) (oi := ?_) (v := ?_) ?_ (by kernel_rfl) (by kernel_rfl) (by kernel_rfl) ?_ (Or.inl ⟨?_, ?_⟩) hHeld ?_
      rotate_left 2
      · rw [List.getElem?_toArray]; rfl
      · exact fun _ _ _ h => h
      · rfl
      · intro w' hSw
        go_simp
        try with_reducible rfl
      try simp only [Act.put, List.setIfInBounds_toArray, List.set_cons_zero, List.set_cons_succ]
      refine wpAnyH_ready (rs := [8]) (by kernel_rfl) (by simp) ?_
      refine AllReadyH.cons (o := ?_) ?_ (fun K hK => ?_) AllReadyH.nil
      rotate_left 1
      · rw [List.getElem?_toArray]; rfl
      go_simp
      go_wp2_with (go_at_call 16; refine (CPR.out _ _ (hR1'.out.kept hg2)).mono ?_; rintro e W3 ⟨rfl, hg3⟩)
      refine hK.out _ _ ?_ (fun hHeld => ?_)
      · exact gtrans hHeld hg3
      clear hK K
      refine wpAnyH_take (i := 9) (oi := ?_) (v := ?_) ?_ (by kernel_rfl) (by kernel_rfl) (by kernel_rfl) ?_ (Or.inl ⟨?_, ?_⟩) hHeld ?_
      rotate_left 2
      · rw [List.getElem?_toArray]; rfl
      · exact fun _ _ _ h => h
      · rfl
      · intro w' hSw
        go_simp
        try with_reducible rfl
      try simp only [Act.put, List.setIfInBounds_toArray, List.set_cons_zero, List.set_cons_succ]
      refine wpAnyH_take (i := 10) (oi := ?_) (v := ?_) ?_ (by kernel_rfl) (by kernel_rfl) (by kernel_rfl) ?_ (Or.inl ⟨?_, ?_⟩) hHeld ?_
      rotate_left 2
      · rw [List.getElem?_toArray]; rfl
      · exact fun _ _ _ h => h
      · rfl
      · intro w' hSw
        go_simp
        try with_reducible rfl
      try simp only [Act.put, List.setIfInBounds_toArray, List.set_cons_zero, List.set_cons_succ]
      refine wpAnyH_take (i := 11) (oi := ?_) (v := ?_) ?_ (by kernel_rfl) (by kernel_rfl) (by kernel_rfl) ?_ (Or.inl ⟨?_, ?_⟩) hHeld ?_
      rotate_left 2
      · rw [List.getElem?_toArray]; rfl
      · exact fun _ _ _ h => h
      · rfl
      · intro w' hSw
        go_simp
        try with_reducible rfl
      try simp only [Act.put, List.setIfInBounds_toArray, List.set_cons_zero, List.set_cons_succ]
      refine wpAnyH_take (i := 12) (oi := ?_) (v := ?_) ?_ (by kernel_rfl) (by kernel_rfl) (by kernel_rfl) ?_ (Or.inl ⟨?_, ?_⟩) hHeld ?_
      rotate_left 2
      · rw [List.getElem?_toArray]; rfl
      · exact fun _ _ _ h => h
      · rfl
      · intro w' hSw
        go_simp
        try with_reducible rfl
      try simp only [Act.put, List.setIfInBounds_toArray, List.set_cons_zero, List.set_cons_succ]
      refine wpAnyH_take (i := 13) (oi := ?_) (v := ?_) ?_ (by kernel_rfl) (by kernel_rfl) (by kernel_rfl) ?_ (Or.inl ⟨?_, ?_⟩) hHeld ?_
      rotate_left 2
      · rw [List.getElem?_toArray]; rfl
      · exact fun _ _ _ h => h
      · rfl
      · intro w' hSw
        go_simp
        try with_reducible rfl
      try simp only [Act.put, List.setIfInBounds_toArray, List.set_cons_zero, List.set_cons_succ]
      refine wpAnyH_take (i := 14) (oi := ?_) (v := ?_) ?_ (by kernel_rfl) (by kernel_rfl) (by kernel_rfl) ?_ (Or.inl ⟨?_, ?_⟩) hHeld ?_
      rotate_left 2
      · rw [List.getElem?_toArray]; rfl
      · exact fun _ _ _ h => h
      · rfl
      · intro w' hSw
        go_simp
        try with_reducible rfl
      try simp only [Act.put, List.setIfInBounds_toArray, List.set_cons_zero, List.set_cons_succ]
      refine wpAnyH_take (i := 15) (oi := ?_) (v := ?_) ?_ (by kernel_rfl) (by kernel_rfl) (by kernel_rfl) ?_ (Or.inl ⟨?_, ?_⟩) hHeld ?_
      rotate_left 2
      · rw [List.getElem?_toArray]; rfl
      · exact fun _ _ _ h => h
      · rfl
      · intro w' hSw
        go_simp
        try with_reducible rfl
      try simp only [Act.put, List.setIfInBounds_toArray, List.set_cons_zero, List.set_cons_succ]
      refine wpAnyH_take (i := 18) (oi := ?_) (v := ?_) ?_ (by kernel_rfl) (by kernel_rfl) (by kernel_rfl) ?_ (Or.inl ⟨?_, ?_⟩) hHeld ?_
      rotate_left 2
      · rw [List.getElem?_toArray]; rfl
      · exact fun _ _ _ h => h
      · rfl
      · intro w' hSw
        go_simp
        try with_reducible rfl
      try simp only [Act.put, List.setIfInBounds_toArray, List.set_cons_zero, List.set_cons_succ]
      refine wpAnyH_take (i := 19) (oi := ?_) (v := ?_) ?_ (by kernel_rfl) (by kernel_rfl) (by kernel_rfl) ?_ (Or.inl ⟨?_, ?_⟩) hHeld ?_
      rotate_left 2
      · rw [List.getElem?_toArray]; rfl
      · exact fun _ _ _ h => h
      · rfl
      · intro w' hSw
        go_simp
        try with_reducible rfl
      try simp only [Act.put, List.setIfInBounds_toArray, List.set_cons_zero, List.set_cons_succ]
      refine wpAnyH_take (i := 20) (oi := ?_) (v := ?_) ?_ (by kernel_rfl) (by kernel_rfl) (by kernel_rfl) ?_ (Or.inl ⟨?_, ?_⟩) hHeld ?_
      rotate_left 2
      · rw [List.getElem?_toArray]; rfl
      · exact fun _ _ _ h => h
      · rfl
      · intro w' hSw
        go_simp
        try with_reducible rfl
      try simp only [Act.put, List.setIfInBounds_toArray, List.set_cons_zero, List.set_cons_succ]
      refine wpAnyH_take (i := 21) (oi := ?_) (v := ?_) ?_ (by kernel_rfl) (by kernel_rfl) (by kernel_rfl) ?_ (Or.inl ⟨?_, ?_⟩) hHeld ?_
      rotate_left 2
      · rw [List.getElem?_toArray]; rfl
      · exact fun _ _ _ h => h
      · rfl
      · intro w' hSw
        go_simp
        try with_reducible rfl
      try simp only [Act.put, List.setIfInBounds_toArray, List.set_cons_zero, List.set_cons_succ]
      refine wpAnyH_take (i := 22) (oi := ?_) (v := ?_) ?_ (by kernel_rfl) (by kernel_rfl) (by kernel_rfl) ?_ (Or.inl ⟨?_, ?_⟩) hHeld ?_
      rotate_left 2
      · rw [List.getElem?_toArray]; rfl
      · exact fun _ _ _ h => h
      · rfl
      · intro w' hSw
        have hcv := CV.out _ hSw
        go_simp
        try with_reducible rfl
      try simp only [Act.put, List.setIfInBounds_toArray, List.set_cons_zero, List.set_cons_succ]
      refine wpAnyH_ready (rs := [16]) (by kernel_rfl) (by simp) ?_
      refine AllReadyH.cons (o := ?_) ?_ (fun K hK => ?_) AllReadyH.nil
      rotate_left 1
      · rw [List.getElem?_toArray]; rfl
      go_simp
      go_wp2_with (go_at_call 12; refine (CMB.out _ hHeld).mono ?_; rintro e W4 ⟨g4, c4, rfl, hO4, hg4⟩)
      refine hK.out _ _ ?_ (fun hHeld => ?_)
      · exact gtrans hHeld hg4
      clear hK K
      have J4 := Lib.hid hHeld
      refine wpAnyH_more (S' := fun w' => W4.grownBy w' none) (fun w' h => gtrans J4.out h) _ _ _ _ ?_
      replace hHeld : (fun w' => W4.grownBy w' none) _ := grefl W4 none
      refine wpAnyH_take (i := 17) (oi := ?_) (v := ?_) ?_ (by kernel_rfl) (by kernel_rfl) (by kernel_rfl) ?_ (Or.inl ⟨?_, ?_⟩) hHeld ?_
      rotate_left 2
      · rw [List.getElem?_toArray]; rfl
      · exact fun _ _ _ h => h
      · rfl
      · intro w' hSw
        have hcv := own_string rfl (hO4.kept hSw (.inr (by simp [Value.ownBlock])))
        go_simp
        try with_reducible rfl
      try simp only [Act.put, List.setIfInBounds_toArray, List.set_cons_zero, List.set_cons_succ]
      refine wpAnyH_ready (rs := [23]) (by kernel_rfl) (by simp) ?_
      refine AllReadyH.cons (o := ?_) ?_ (fun K hK => ?_) AllReadyH.nil
      rotate_left 1
      · rw [List.getElem?_toArray]; rfl
      go_simp
      go_wp2_with (go_at_call 13; refine (CSM.out _ _ (((hR1'.out.kept hg2).kept hg3).kept hg4)).mono ?_; rintro e W5 ⟨rfl, hg5⟩)
      refine hK.out _ _ ?_ (fun hHeld => ?_)
      · exact hg5
      clear hK K
      refine wpAnyH_take (i := 24) (oi := ?_) (v := ?_) ?_ (by kernel_rfl) (by kernel_rfl) (by kernel_rfl) ?_ (Or.inl ⟨?_, ?_⟩) hHeld ?_
      rotate_left 2
      · rw [List.getElem?_toArray]; rfl
      · exact fun _ _ _ h => h
      · rfl
      · intro w' hSw
        go_simp
        try with_reducible rfl
      try simp only [Act.put, List.setIfInBounds_toArray, List.set_cons_zero, List.set_cons_succ]
      refine wpAnyH_take (i := 25) (oi := ?_) (v := ?_) ?_ (by kernel_rfl) (by kernel_rfl) (by kernel_rfl) ?_ (Or.inl ⟨?_, ?_⟩) hHeld ?_
      rotate_left 2
      · rw [List.getElem?_toArray]; rfl
      · exact fun _ _ _ h => h
      · rfl
      · intro w' hSw
        go_simp
        try with_reducible rfl
      try simp only [Act.put, List.setIfInBounds_toArray, List.set_cons_zero, List.set_cons_succ]
      refine wpAnyH_take (i := 26) (oi := ?_) (v := ?_) ?_ (by kernel_rfl) (by kernel_rfl) (by kernel_rfl) ?_ (Or.inl ⟨?_, ?_⟩) hHeld ?_
      rotate_left 2
      · rw [List.getElem?_toArray]; rfl
      · exact fun _ _ _ h => h
      · rfl
      · intro w' hSw
        go_simp
        try with_reducible rfl
      try simp only [Act.put, List.setIfInBounds_toArray, List.set_cons_zero, List.set_cons_succ]
      refine wpAnyH_done (by kernel_rfl) ?_ _
      go_wp2_with fail
      go_ret
      exact ⟨by first | rfl | simp, gtrans J4.out hHeld⟩

end Go.Proofs.YtdibpklbkcmhiaaDoor
