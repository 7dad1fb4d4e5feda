/- The law FnMapAgree: both packages map alike. Written by gen_lawmapa.py. -/
import Derived.Test.YtdibpklbkcmhiaaDoorLawMapD
import Derived.Test.YtdibpklbkcmhiaaDoorReg
import Derived.Lib.SlBytesConst
namespace Go.Proofs.YtdibpklbkcmhiaaDoor
open Go.Shelf Go.RowKit Go.Lib Go.Ftx
/-- '[]byte(s)': a new slice that holds the text's bytes -/
theorem to_bytes (w : World) (s : ByteArray) (hz : s.size ≤ 4611686018427387904) : ∃ a c w', (convert 9 23 (.string s)).run Tryd.prog w = .ok (.slice (some ⟨a, 0, none⟩) s.size c) w' ∧ BytesL w' (.slice (some ⟨a, 0, none⟩) s.size c) s.data.toList ∧ w.grownBy w' none := by
  have h := run_bytes_of_string (P := Tryd.prog) w 9 23 5 s Tryd.underlying9 Tryd.underlying23 Tryd.underlying5
  have hge := grownCap_ge w s.size 0 5
  have hle := grownCap_le_maxLen w s.size 0 5 (by unfold maxLen; omega)
  have hl : s.data.toList.length = s.size := (Lib.size_eq s).symm
  refine ⟨_, _, _, h, .inr ⟨w.heap.size, 0, grownCap w s.size 0 5, by rw [hl], by rw [hl]; exact hge, hle, fun i hi => ?_⟩, gtrans (gdrew (grefl w none)) (World.grownBy_alloc w.drew _ none)⟩
  have hc := cell_of_heap (heap_alloc_new w.drew (.cells (bytesRow s (grownCap w s.size 0 5)) 5 ((bytesRow s (grownCap w s.size 0 5)).size, (bytesRow s (grownCap w s.size 0 5)).size + 1))) i
  rw [hl] at hi
  rw [Nat.zero_add]
  refine Eq.trans hc ?_
  have hi' : i < s.data.size := hi
  have e : s.data[i]? = some s.data[i] := Array.getElem?_eq_getElem hi'
  simp [bytesRow, Array.getElem?_append, hi, List.getD]
/-- '[]byte("some")' -/
theorem some_bytes (w : World) (fr : Nat × Nat) : BytesL (w.alloc (.cells #[.int .u8 115, .int .u8 111, .int .u8 109, .int .u8 101] 5 fr)) (.slice (some ⟨w.heap.size, 0, none⟩) 4 4) #[115, 111, 109, 101].toList := by
  refine .inr ⟨w.heap.size, 0, 4, rfl, by decide, by omega, fun i hi => ?_⟩
  have hi' : i < 4 := hi
  rw [Nat.zero_add]
  refine Eq.trans (cell_of_heap (heap_alloc_new w _) i) ?_
  rcases i with _ | _ | _ | _ | i
  · rfl
  · rfl
  · rfl
  · rfl
  · omega
theorem some_conv (w : World) : (convert 23 23 (.slice (some ⟨w.heap.size, 0, none⟩) 4 4)).run Tryd.prog (w.alloc (.cells #[.int .u8 115, .int .u8 111, .int .u8 109, .int .u8 101] 5)) = .ok (.slice (some ⟨w.heap.size, 0, none⟩) 4 4) (w.alloc (.cells #[.int .u8 115, .int .u8 111, .int .u8 109, .int .u8 101] 5 (4, 5))) := Lib.run_convert_bytes_const (P := Tryd.prog) w 23 5 #[.int .u8 115, .int .u8 111, .int .u8 109, .int .u8 101] 4 4 Tryd.underlying23 Tryd.underlying5
theorem some_map (W : World) (a : Addr) (hB : BytesL W (.slice (some a) 4 4) #[115, 111, 109, 101].toList) (hU : Utf8T W) : Calls Tryd.prog 12 #[.slice none 0 0, .bool true, .int .i32 0, .slice (some a) 4 4] W fun e w' => ∃ g c, e = .returned (.slice (some ⟨g, 0, none⟩) 4 c) ∧ (∀ w'', w'.grownBy w'' none → (convert 23 9 (.slice (some ⟨g, 0, none⟩) 4 c)).run Tryd.prog w'' = .ok (.string ⟨#[115, 111, 109, 101]⟩) w'') ∧ W.grownBy w' none := by
  have h := implMapB_any (.slice none 0 0) [] true 0 _ _ W (RulesL.nil _) okT_nil (by decide) (by decide) hB (by decide) hU
  rw [keep_id _ (by decide +kernel)] at h
  exact h.mono fun e w' ⟨g, c, he, hO, hg⟩ => ⟨g, c, he, fun w'' hk => own_string rfl (hO.kept hk (.inr (by simp [Value.ownBlock]))), hg⟩
theorem mapB_is (v : Value) (T : List (Int × Int)) (keep : Bool) (rest : Int) (u : Value) (l : List UInt8) (o : ByteArray) (W : World) (hT : RulesL W v T) (hok : okT T) (hr0 : -2147483648 ≤ rest) (hr1 : rest ≤ 2147483647) (hB : BytesL W u l) (hs : l.length < 35184372088832) (hU : Utf8T W) (ho : mapD (imgT T keep rest) l = o.data.toList) :
    Calls Tryd.prog 12 #[v, .bool keep, .int .i32 rest, u] W fun e w' => ∃ g c, e = .returned (.slice (some ⟨g, 0, none⟩) o.size c) ∧ (∀ w'', w'.grownBy w'' none → (convert 23 9 (.slice (some ⟨g, 0, none⟩) o.size c)).run Tryd.prog w'' = .ok (.string o) w'') ∧ W.grownBy w' none := by
  have h := implMapB_any v T keep rest u l W hT hok hr0 hr1 hB hs hU
  rw [ho] at h
  have hz : o.data.toList.length = o.size := (Lib.size_eq o).symm
  refine h.mono fun e w' ⟨g, c, he, hO, hg⟩ => ?_
  rw [hz] at he hO
  refine ⟨g, c, he, fun w'' hk => ?_, hg⟩
  have e := own_string hz (hO.kept hk (.inr (by simp [Value.ownBlock])))
  exact e

set_option maxHeartbeats 2000000 in
theorem mapAgree_walk (w : World) (l : List UInt8) (bv : Value) (hb : BytesL w bv l) (hT : Utf8T w) :
    Calls Tryd.prog 11 #[bv] w (TruePost w) := by
  have hv := hb.code
  clear hb
  rcases hv.split with ⟨a, len, cap, rfl, hl, hl2⟩ | ⟨⟨a, len, cap, rfl, hl⟩, hC⟩
  · clear hv hT
    have hl' : (1048576 : Int) < (len : Int) := by omega
    go_enter Tryd.func11, Tryd.ntmps11
    go_wp2
    go_ret
    exact ⟨rfl, grefl w none⟩
  · have hl' : ¬ (1048576 : Int) < (len : Int) := by omega
    have HC := Lib.hid hC
    have HT := Lib.hid hT
    clear hv hC hT
    go_enter Tryd.func11, Tryd.ntmps11
    go_wp2_with fail
    refine (drawMap_any _ _ HC.out).mono ?_
    rintro e w1 ⟨tv, T, keep, rest, s, hT5, hok, hr0, hr1, hs, rfl, hRL, hg1⟩
    have HR := Lib.hid hRL
    have HOK := Lib.hid hok
    clear hRL hok
    have G1 := Lib.hid hg1
    clear hg1
    clear HC
    cases hv : Lib.validD s.data.toList with
    | false =>
      go_wp2_with fail
      refine (valid_isM s _ false (by omega) (HT.out.grown G1.out) hv).mono ?_
      rintro e w2 ⟨rfl, hg2⟩
      replace HR := Lib.hid (HR.out.kept hg2)
      have G2 := Lib.hid (gtrans G1.out hg2)
      clear hg2 G1
      clear HR HOK
      have kc := some_conv
      go_wp2_with fail
      refine (some_map _ _ (some_bytes _ _) (HT.out.grown (galloc G2.out _))).mono ?_
      rintro e wN ⟨gN, cN, rfl, hO, hg⟩
      have hcv := hO wN (grefl wN none)
      have GN := gtrans (galloc G2.out _) hg
      clear hO hg
      go_wp2_with fail
      go_ret
      exact ⟨by first | rfl | simp, GN⟩
    | true =>
      go_wp2_with fail
      refine (valid_isM s _ true (by omega) (HT.out.grown G1.out) hv).mono ?_
      rintro e w2 ⟨rfl, hg2⟩
      replace HR := Lib.hid (HR.out.kept hg2)
      have G2 := Lib.hid (gtrans G1.out hg2)
      clear hg2 G1
      cases hp : properT T keep rest with
      | false =>
        go_wp2_with fail
        refine (proper_is _ T keep rest _ false HR.out hp).mono ?_
        rintro e w3 ⟨rfl, hg3⟩
        replace HR := Lib.hid (HR.out.kept hg3)
        have G3 := Lib.hid (gtrans G2.out hg3)
        clear hg3 G2
        clear HR HOK
        have kc := some_conv
        go_wp2_with fail
        refine (some_map _ _ (some_bytes _ _) (HT.out.grown (galloc G3.out _))).mono ?_
        rintro e wN ⟨gN, cN, rfl, hO, hg⟩
        have hcv := hO wN (grefl wN none)
        have GN := gtrans (galloc G3.out _) hg
        clear hO hg
        go_wp2_with fail
        go_ret
        exact ⟨by first | rfl | simp, GN⟩
      | true =>
        go_wp2_with fail
        refine (proper_is _ T keep rest _ true HR.out hp).mono ?_
        rintro e w3 ⟨rfl, hg3⟩
        replace HR := Lib.hid (HR.out.kept hg3)
        have G3 := Lib.hid (gtrans G2.out hg3)
        clear hg3 G2
        obtain ⟨o, ho⟩ := ex_outM (mapD (imgT T keep rest) s.data.toList)
        have kc := some_conv
        obtain ⟨ta, tc, rfl, -, -⟩ := HR.out.form
        have hlen : s.data.toList.length = s.size := (Lib.size_eq s).symm
        go_wp2_with fail
        refine wp_region_held_drew (S := fun w' => w.grownBy w' none) (by kernel_rfl) (gdrew G3.out) (fun hHeld => ?_)
        replace HR := Lib.hid (HR.out.kept (gdrew (grefl w3 none)))
        clear G3
        refine wpAnyH_take (i := 0) (oi := ?_) (v := ?_) ?_ (by kernel_rfl) (by kernel_rfl) (by kernel_rfl) ?_ (Or.inl ⟨?_, ?_⟩) hHeld ?_
        rotate_left 2
        · rw [List.getElem?_toArray]; rfl
        · exact fun _ _ _ h => h
        · rfl
        · intro w' hSw
          go_simp
          try with_reducible rfl
        try simp only [Act.put, List.setIfInBounds_toArray, List.set_cons_zero, List.set_cons_succ]
        refine wpAnyH_take (i := 2) (oi := ?_) (v := ?_) ?_ (by kernel_rfl) (by kernel_rfl) (by kernel_rfl) ?_ (Or.inl ⟨?_, ?_⟩) hHeld ?_
        rotate_left 2
        · rw [List.getElem?_toArray]; rfl
        · exact fun _ _ _ h => h
        · rfl
        · intro w' hSw
          go_simp
          try with_reducible rfl
        try simp only [Act.put, List.setIfInBounds_toArray, List.set_cons_zero, List.set_cons_succ]
        refine wpAnyH_take (i := 3) (oi := ?_) (v := ?_) ?_ (by kernel_rfl) (by kernel_rfl) (by kernel_rfl) ?_ (Or.inl ⟨?_, ?_⟩) hHeld ?_
        rotate_left 2
        · rw [List.getElem?_toArray]; rfl
        · exact fun _ _ _ h => h
        · rfl
        · intro w' hSw
          go_simp
          try with_reducible rfl
        try simp only [Act.put, List.setIfInBounds_toArray, List.set_cons_zero, List.set_cons_succ]
        refine wpAnyH_take (i := 4) (oi := ?_) (v := ?_) ?_ (by kernel_rfl) (by kernel_rfl) (by kernel_rfl) ?_ (Or.inl ⟨?_, ?_⟩) hHeld ?_
        rotate_left 2
        · rw [List.getElem?_toArray]; rfl
        · exact fun _ _ _ h => h
        · rfl
        · intro w' hSw
          go_simp
          try with_reducible rfl
        try simp only [Act.put, List.setIfInBounds_toArray, List.set_cons_zero, List.set_cons_succ]
        refine wpAnyH_take (i := 8) (oi := ?_) (v := ?_) ?_ (by kernel_rfl) (by kernel_rfl) (by kernel_rfl) ?_ (Or.inl ⟨?_, ?_⟩) hHeld ?_
        rotate_left 2
        · rw [List.getElem?_toArray]; rfl
        · exact fun _ _ _ h => h
        · rfl
        · intro w' hSw
          go_simp
          try with_reducible rfl
        try simp only [Act.put, List.setIfInBounds_toArray, List.set_cons_zero, List.set_cons_succ]
        refine wpAnyH_take (i := 9) (oi := ?_) (v := ?_) ?_ (by kernel_rfl) (by kernel_rfl) (by kernel_rfl) ?_ (Or.inl ⟨?_, ?_⟩) hHeld ?_
        rotate_left 2
        · rw [List.getElem?_toArray]; rfl
        · exact fun _ _ _ h => h
        · rfl
        · intro w' hSw
          go_simp
          try with_reducible rfl
        try simp only [Act.put, List.setIfInBounds_toArray, List.set_cons_zero, List.set_cons_succ]
        refine wpAnyH_take (i := 10) (oi := ?_) (v := ?_) ?_ (by kernel_rfl) (by kernel_rfl) (by kernel_rfl) ?_ (Or.inl ⟨?_, ?_⟩) hHeld ?_
        rotate_left 2
        · rw [List.getElem?_toArray]; rfl
        · exact fun _ _ _ h => h
        · rfl
        · intro w' hSw
          go_simp
          try with_reducible rfl
        try simp only [Act.put, List.setIfInBounds_toArray, List.set_cons_zero, List.set_cons_succ]
        refine wpAnyH_take (i := 11) (oi := ?_) (v := ?_) ?_ (by kernel_rfl) (by kernel_rfl) (by kernel_rfl) ?_ (Or.inl ⟨?_, ?_⟩) hHeld ?_
        rotate_left 2
        · rw [List.getElem?_toArray]; rfl
        · exact fun _ _ _ h => h
        · rfl
        · intro w' hSw
          go_simp
          try with_reducible rfl
        try simp only [Act.put, List.setIfInBounds_toArray, List.set_cons_zero, List.set_cons_succ]
        refine wpAnyH_ready (rs := [1, 5]) (by kernel_rfl) (by simp) ?_
        refine AllReadyH.cons (o := ?_) ?_ (fun K hK => ?_) (AllReadyH.cons (o := ?_) ?_ (fun K hK => ?_) AllReadyH.nil)
        rotate_left 1
        · rw [List.getElem?_toArray]; rfl
        · skip
          go_simp
          go_wp2_with (go_at_call 22; refine (rules_any _ T _ HR.out (by omega)).mono ?_; rintro e WR ⟨vr, rfl, hOR, hnR, hgR⟩)
          refine hK.out _ _ ?_ (fun hHeld => ?_)
          · exact gtrans hHeld hgR
          clear hK K
          have HV := Lib.hid (rules_of_own hOR)
          clear hOR hnR
          replace HR := Lib.hid (HR.out.kept hgR)
          refine wpAnyH_ready (rs := [5]) (by kernel_rfl) (by simp) ?_
          refine AllReadyH.cons (o := ?_) ?_ (fun K hK => ?_) AllReadyH.nil
          rotate_left 1
          · rw [List.getElem?_toArray]; rfl
          obtain ⟨ab, cb, WB, hcb, hB, hgB⟩ := to_bytes WR s (by omega)
          go_simp
          refine hK.out _ _ ?_ (fun hHeld => ?_)
          · exact gtrans hHeld hgB
          clear hK K
          clear hcb
          have HB := Lib.hid hB
          clear hB
          replace HR := Lib.hid (HR.out.kept hgB)
          replace HV := Lib.hid (HV.out.kept hgB)
          obtain ⟨va, vc, rfl, -, -⟩ := HV.out.form
          refine wpAnyH_ready (rs := [6]) (by kernel_rfl) (by simp) ?_
          refine AllReadyH.cons (o := ?_) ?_ (fun K hK => ?_) AllReadyH.nil
          rotate_left 1
          · rw [List.getElem?_toArray]; rfl
          go_simp
          go_wp2_with (go_at_call 12; refine (mapB_is _ T keep rest _ s.data.toList o _ HV.out HOK.out hr0 hr1 HB.out (by omega) (HT.out.grown hHeld) ho).mono ?_; rintro e WM ⟨gM, cM, rfl, hOM, hgM⟩)
          refine hK.out _ _ ?_ (fun hHeld => ?_)
          · exact gtrans hHeld hgM
          clear hK K
          replace HR := Lib.hid (HR.out.kept hgM)
          clear HV HB
          have JM := Lib.hid hHeld
          refine wpAnyH_more (S' := fun w' => WM.grownBy w' none) (fun w' h => gtrans JM.out h) _ _ _ _ ?_
          replace hHeld : (fun w' => WM.grownBy w' none) _ := grefl WM none
          refine wpAnyH_take (i := 7) (oi := ?_) (v := ?_) ?_ (by kernel_rfl) (by kernel_rfl) (by kernel_rfl) ?_ (Or.inl ⟨?_, ?_⟩) hHeld ?_
          rotate_left 2
          · rw [List.getElem?_toArray]; rfl
          · exact fun _ _ _ h => h
          · rfl
          · intro w' hSw
            have hcv := hOM _ hSw
            go_simp
            try with_reducible rfl
          try simp only [Act.put, List.setIfInBounds_toArray, List.set_cons_zero, List.set_cons_succ]
          refine wpAnyH_ready (rs := [12]) (by kernel_rfl) (by simp) ?_
          refine AllReadyH.cons (o := ?_) ?_ (fun K hK => ?_) AllReadyH.nil
          rotate_left 1
          · rw [List.getElem?_toArray]; rfl
          go_simp
          go_wp2_with (go_at_call 19; refine (mapped_is _ T keep rest s o _ HR.out (by omega) HOK.out ⟨hr0, hr1⟩ (by omega) (HT.out.grown JM.out) ho).mono ?_; rintro e WE ⟨rfl, hgE⟩)
          refine hK.out _ _ ?_ (fun hHeld => ?_)
          · exact gtrans hHeld hgE
          clear hK K
          have JE := Lib.hid (gtrans JM.out hHeld)
          refine wpAnyH_take (i := 13) (oi := ?_) (v := ?_) ?_ (by kernel_rfl) (by kernel_rfl) (by kernel_rfl) ?_ (Or.inl ⟨?_, ?_⟩) hHeld ?_
          rotate_left 2
          · rw [List.getElem?_toArray]; rfl
          · exact fun _ _ _ h => h
          · rfl
          · intro w' hSw
            go_simp
            try with_reducible rfl
          try simp only [Act.put, List.setIfInBounds_toArray, List.set_cons_zero, List.set_cons_succ]
          refine wpAnyH_take (i := 14) (oi := ?_) (v := ?_) ?_ (by kernel_rfl) (by kernel_rfl) (by kernel_rfl) ?_ (Or.inl ⟨?_, ?_⟩) hHeld ?_
          rotate_left 2
          · rw [List.getElem?_toArray]; rfl
          · exact fun _ _ _ h => h
          · rfl
          · intro w' hSw
            go_simp
            try with_reducible rfl
          try simp only [Act.put, List.setIfInBounds_toArray, List.set_cons_zero, List.set_cons_succ]
          refine wpAnyH_ready (rs := [15]) (by kernel_rfl) (by simp) ?_
          refine AllReadyH.cons (o := ?_) ?_ (fun K hK => ?_) AllReadyH.nil
          rotate_left 1
          · rw [List.getElem?_toArray]; rfl
          go_simp
          refine hK.out _ _ ?_ (fun hHeld => ?_)
          · exact galloc hHeld _
          clear hK K
          refine wpAnyH_ready (rs := [16]) (by kernel_rfl) (by simp) ?_
          refine AllReadyH.cons (o := ?_) ?_ (fun K hK => ?_) AllReadyH.nil
          rotate_left 1
          · rw [List.getElem?_toArray]; rfl
          go_simp
          refine hK.out _ _ ?_ (fun hHeld => ?_)
          · exact galloc hgE _
          clear hK K
          refine wpAnyH_ready (rs := [17]) (by kernel_rfl) (by simp) ?_
          refine AllReadyH.cons (o := ?_) ?_ (fun K hK => ?_) AllReadyH.nil
          rotate_left 1
          · rw [List.getElem?_toArray]; rfl
          go_simp
          go_wp2_with (go_at_call 12; refine (some_map _ _ (some_bytes _ _) (HT.out.grown (galloc JE.out _))).mono ?_; rintro e WN ⟨gN, cN, rfl, hON, hgN⟩)
          refine hK.out _ _ ?_ (fun hHeld => ?_)
          · exact gtrans hHeld hgN
          clear hK K
          have JN := Lib.hid (gtrans (galloc JE.out _) hgN)
          refine wpAnyH_more (S' := fun w' => WN.grownBy w' none) (fun w' h => gtrans (gtrans (galloc hgE _) hgN) h) _ _ _ _ ?_
          replace hHeld : (fun w' => WN.grownBy w' none) _ := grefl WN none
          refine wpAnyH_take (i := 18) (oi := ?_) (v := ?_) ?_ (by kernel_rfl) (by kernel_rfl) (by kernel_rfl) ?_ (Or.inl ⟨?_, ?_⟩) hHeld ?_
          rotate_left 2
          · rw [List.getElem?_toArray]; rfl
          · exact fun _ _ _ h => h
          · rfl
          · intro w' hSw
            have hcv := hON _ hSw
            go_simp
            try with_reducible rfl
          try simp only [Act.put, List.setIfInBounds_toArray, List.set_cons_zero, List.set_cons_succ]
          refine wpAnyH_take (i := 19) (oi := ?_) (v := ?_) ?_ (by kernel_rfl) (by kernel_rfl) (by kernel_rfl) ?_ (Or.inl ⟨?_, ?_⟩) hHeld ?_
          rotate_left 2
          · rw [List.getElem?_toArray]; rfl
          · exact fun _ _ _ h => h
          · rfl
          · intro w' hSw
            go_simp
            try with_reducible rfl
          try simp only [Act.put, List.setIfInBounds_toArray, List.set_cons_zero, List.set_cons_succ]
          refine wpAnyH_take (i := 20) (oi := ?_) (v := ?_) ?_ (by kernel_rfl) (by kernel_rfl) (by kernel_rfl) ?_ (Or.inl ⟨?_, ?_⟩) hHeld ?_
          rotate_left 2
          · rw [List.getElem?_toArray]; rfl
          · exact fun _ _ _ h => h
          · rfl
          · intro w' hSw
            go_simp
            try with_reducible rfl
          try simp only [Act.put, List.setIfInBounds_toArray, List.set_cons_zero, List.set_cons_succ]
          refine wpAnyH_take (i := 21) (oi := ?_) (v := ?_) ?_ (by kernel_rfl) (by kernel_rfl) (by kernel_rfl) ?_ (Or.inl ⟨?_, ?_⟩) hHeld ?_
          rotate_left 2
          · rw [List.getElem?_toArray]; rfl
          · exact fun _ _ _ h => h
          · rfl
          · intro w' hSw
            go_simp
            try with_reducible rfl
          try simp only [Act.put, List.setIfInBounds_toArray, List.set_cons_zero, List.set_cons_succ]
          refine wpAnyH_done (by kernel_rfl) ?_ _
          go_wp2_with fail
          go_ret
          exact ⟨by first | rfl | simp, JN.out⟩
        rotate_left 1
        · rw [List.getElem?_toArray]; rfl
        obtain ⟨ab, cb, WB, hcb, hB, hgB⟩ := to_bytes w3.drew s (by omega)
        go_simp
        refine hK.out _ _ ?_ (fun hHeld => ?_)
        · exact gtrans hHeld hgB
        clear hK K
        clear hcb
        have HB := Lib.hid hB
        clear hB
        replace HR := Lib.hid (HR.out.kept hgB)
        refine wpAnyH_ready (rs := [1]) (by kernel_rfl) (by simp) ?_
        refine AllReadyH.cons (o := ?_) ?_ (fun K hK => ?_) AllReadyH.nil
        rotate_left 1
        · rw [List.getElem?_toArray]; rfl
        go_simp
        go_wp2_with (go_at_call 22; refine (rules_any _ T _ HR.out (by omega)).mono ?_; rintro e WR ⟨vr, rfl, hOR, hnR, hgR⟩)
        refine hK.out _ _ ?_ (fun hHeld => ?_)
        · exact gtrans hHeld hgR
        clear hK K
        have HV := Lib.hid (rules_of_own hOR)
        clear hOR hnR
        replace HR := Lib.hid (HR.out.kept hgR)
        replace HB := Lib.hid (HB.out.kept hgR)
        obtain ⟨va, vc, rfl, -, -⟩ := HV.out.form
        refine wpAnyH_ready (rs := [6]) (by kernel_rfl) (by simp) ?_
        refine AllReadyH.cons (o := ?_) ?_ (fun K hK => ?_) AllReadyH.nil
        rotate_left 1
        · rw [List.getElem?_toArray]; rfl
        go_simp
        go_wp2_with (go_at_call 12; refine (mapB_is _ T keep rest _ s.data.toList o _ HV.out HOK.out hr0 hr1 HB.out (by omega) (HT.out.grown hHeld) ho).mono ?_; rintro e WM ⟨gM, cM, rfl, hOM, hgM⟩)
        refine hK.out _ _ ?_ (fun hHeld => ?_)
        · exact gtrans hHeld hgM
        clear hK K
        replace HR := Lib.hid (HR.out.kept hgM)
        clear HV HB
        have JM := Lib.hid hHeld
        refine wpAnyH_more (S' := fun w' => WM.grownBy w' none) (fun w' h => gtrans JM.out h) _ _ _ _ ?_
        replace hHeld : (fun w' => WM.grownBy w' none) _ := grefl WM none
        refine wpAnyH_take (i := 7) (oi := ?_) (v := ?_) ?_ (by kernel_rfl) (by kernel_rfl) (by kernel_rfl) ?_ (Or.inl ⟨?_, ?_⟩) hHeld ?_
        rotate_left 2
        · rw [List.getElem?_toArray]; rfl
        · exact fun _ _ _ h => h
        · rfl
        · intro w' hSw
          have hcv := hOM _ hSw
          go_simp
          try with_reducible rfl
        try simp only [Act.put, List.setIfInBounds_toArray, List.set_cons_zero, List.set_cons_succ]
        refine wpAnyH_ready (rs := [12]) (by kernel_rfl) (by simp) ?_
        refine AllReadyH.cons (o := ?_) ?_ (fun K hK => ?_) AllReadyH.nil
        rotate_left 1
        · rw [List.getElem?_toArray]; rfl
        go_simp
        go_wp2_with (go_at_call 19; refine (mapped_is _ T keep rest s o _ HR.out (by omega) HOK.out ⟨hr0, hr1⟩ (by omega) (HT.out.grown JM.out) ho).mono ?_; rintro e WE ⟨rfl, hgE⟩)
        refine hK.out _ _ ?_ (fun hHeld => ?_)
        · exact gtrans hHeld hgE
        clear hK K
        have JE := Lib.hid (gtrans JM.out hHeld)
        refine wpAnyH_take (i := 13) (oi := ?_) (v := ?_) ?_ (by kernel_rfl) (by kernel_rfl) (by kernel_rfl) ?_ (Or.inl ⟨?_, ?_⟩) hHeld ?_
        rotate_left 2
        · rw [List.getElem?_toArray]; rfl
        · exact fun _ _ _ h => h
        · rfl
        · intro w' hSw
          go_simp
          try with_reducible rfl
        try simp only [Act.put, List.setIfInBounds_toArray, List.set_cons_zero, List.set_cons_succ]
        refine wpAnyH_take (i := 14) (oi := ?_) (v := ?_) ?_ (by kernel_rfl) (by kernel_rfl) (by kernel_rfl) ?_ (Or.inl ⟨?_, ?_⟩) hHeld ?_
        rotate_left 2
        · rw [List.getElem?_toArray]; rfl
        · exact fun _ _ _ h => h
        · rfl
        · intro w' hSw
          go_simp
          try with_reducible rfl
        try simp only [Act.put, List.setIfInBounds_toArray, List.set_cons_zero, List.set_cons_succ]
        refine wpAnyH_ready (rs := [15]) (by kernel_rfl) (by simp) ?_
        refine AllReadyH.cons (o := ?_) ?_ (fun K hK => ?_) AllReadyH.nil
        rotate_left 1
        · rw [List.getElem?_toArray]; rfl
        go_simp
        refine hK.out _ _ ?_ (fun hHeld => ?_)
        · exact galloc hHeld _
        clear hK K
        refine wpAnyH_ready (rs := [16]) (by kernel_rfl) (by simp) ?_
        refine AllReadyH.cons (o := ?_) ?_ (fun K hK => ?_) AllReadyH.nil
        rotate_left 1
        · rw [List.getElem?_toArray]; rfl
        go_simp
        refine hK.out _ _ ?_ (fun hHeld => ?_)
        · exact galloc hgE _
        clear hK K
        refine wpAnyH_ready (rs := [17]) (by kernel_rfl) (by simp) ?_
        refine AllReadyH.cons (o := ?_) ?_ (fun K hK => ?_) AllReadyH.nil
        rotate_left 1
        · rw [List.getElem?_toArray]; rfl
        go_simp
        go_wp2_with (go_at_call 12; refine (some_map _ _ (some_bytes _ _) (HT.out.grown (galloc JE.out _))).mono ?_; rintro e WN ⟨gN, cN, rfl, hON, hgN⟩)
        refine hK.out _ _ ?_ (fun hHeld => ?_)
        · exact gtrans hHeld hgN
        clear hK K
        have JN := Lib.hid (gtrans (galloc JE.out _) hgN)
        refine wpAnyH_more (S' := fun w' => WN.grownBy w' none) (fun w' h => gtrans (gtrans (galloc hgE _) hgN) h) _ _ _ _ ?_
        replace hHeld : (fun w' => WN.grownBy w' none) _ := grefl WN none
        refine wpAnyH_take (i := 18) (oi := ?_) (v := ?_) ?_ (by kernel_rfl) (by kernel_rfl) (by kernel_rfl) ?_ (Or.inl ⟨?_, ?_⟩) hHeld ?_
        rotate_left 2
        · rw [List.getElem?_toArray]; rfl
        · exact fun _ _ _ h => h
        · rfl
        · intro w' hSw
          have hcv := hON _ hSw
          go_simp
          try with_reducible rfl
        try simp only [Act.put, List.setIfInBounds_toArray, List.set_cons_zero, List.set_cons_succ]
        refine wpAnyH_take (i := 19) (oi := ?_) (v := ?_) ?_ (by kernel_rfl) (by kernel_rfl) (by kernel_rfl) ?_ (Or.inl ⟨?_, ?_⟩) hHeld ?_
        rotate_left 2
        · rw [List.getElem?_toArray]; rfl
        · exact fun _ _ _ h => h
        · rfl
        · intro w' hSw
          go_simp
          try with_reducible rfl
        try simp only [Act.put, List.setIfInBounds_toArray, List.set_cons_zero, List.set_cons_succ]
        refine wpAnyH_take (i := 20) (oi := ?_) (v := ?_) ?_ (by kernel_rfl) (by kernel_rfl) (by kernel_rfl) ?_ (Or.inl ⟨?_, ?_⟩) hHeld ?_
        rotate_left 2
        · rw [List.getElem?_toArray]; rfl
        · exact fun _ _ _ h => h
        · rfl
        · intro w' hSw
          go_simp
          try with_reducible rfl
        try simp only [Act.put, List.setIfInBounds_toArray, List.set_cons_zero, List.set_cons_succ]
        refine wpAnyH_take (i := 21) (oi := ?_) (v := ?_) ?_ (by kernel_rfl) (by kernel_rfl) (by kernel_rfl) ?_ (Or.inl ⟨?_, ?_⟩) hHeld ?_
        rotate_left 2
        · rw [List.getElem?_toArray]; rfl
        · exact fun _ _ _ h => h
        · rfl
        · intro w' hSw
          go_simp
          try with_reducible rfl
        try simp only [Act.put, List.setIfInBounds_toArray, List.set_cons_zero, List.set_cons_succ]
        refine wpAnyH_done (by kernel_rfl) ?_ _
        go_wp2_with fail
        go_ret
        exact ⟨by first | rfl | simp, JN.out⟩

end Go.Proofs.YtdibpklbkcmhiaaDoor
