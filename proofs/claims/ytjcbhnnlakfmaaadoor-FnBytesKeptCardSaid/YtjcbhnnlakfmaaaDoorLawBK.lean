/- The law FnBytesKept: what is turned is a copy, and the argument stays as it is. Written by gen_lawbk.py. -/
import Derived.Test.YtjcbhnnlakfmaaaDoorBOut
import Derived.Test.YtjcbhnnlakfmaaaDoorReg
import Derived.Test.YtjcbhnnlakfmaaaDoorLawMapD
namespace Go.Proofs.YtjcbhnnlakfmaaaDoor
open Go.Shelf Go.RowKit Go.Lib Go.Ftx
/-- places that may be written -/
def Writ (W : World) (g n : Nat) : Prop := ∀ i, i < n → (∃ v, W.cell? ⟨g, i, none⟩ = some v) ∧ W.frozen? ⟨g, i, none⟩ = false
theorem Writ.set {W : World} {g n : Nat} (h : Writ W g n) (a : Addr) (v : Value) : Writ (W.setCell a v) g n := fun i hi => by
  obtain ⟨⟨u, hu⟩, hf⟩ := h i hi
  refine ⟨cell?_setCell_some hu, ?_⟩
  rw [World.frozen?_setCell]
  exact hf
theorem Writ.kept {W W' : World} {g n : Nat} (h : Writ W g n) (hg : W.grownBy W' none) : Writ W' g n := fun i hi => by
  obtain ⟨⟨u, hu⟩, hf⟩ := h i hi
  have hlt : g < W.heap.size := World.block_lt_of_cell? W _ hu
  have hb := hg.block g hlt (by simp)
  refine ⟨⟨u, hg.cell hu (by simp)⟩, ?_⟩
  unfold World.frozen? at hf ⊢
  rw [show W'.heap[(⟨g, i, none⟩ : Addr).block]? = W.heap[(⟨g, i, none⟩ : Addr).block]? from hb]
  exact hf
/-- a new slice that may be written -/
def WritP (w : World) (e : Ending) (w' : World) : Prop := ∃ g n cap, e = .returned (.slice (some ⟨g, 0, none⟩) n cap) ∧ n ≤ 9223372036854775807 ∧ w.heap.size ≤ g ∧ g < w'.heap.size ∧ Writ w' g n ∧ w.grownBy w' none
theorem FreshP.writ {w w' : World} {l : List UInt8} {e : Ending} (h : FreshP w l e w') : WritP w e w' := by
  obtain ⟨g, cap, he, hge, hgl, hlc, hcm, hcells, hg⟩ := h
  exact ⟨g, _, cap, he, by omega, hge, hgl, fun i hi => ⟨⟨_, (hcells i hi).1⟩, (hcells i hi).2⟩, hg⟩
/-- a row of slices that may be written, behind a world that stays as it is -/
def RowK (B W : World) (bs : Nat) (xs : List (Nat × Nat × Nat)) : Prop := B.grownBy W none ∧ (∀ x ∈ xs, B.heap.size ≤ x.1 ∧ x.1 < bs ∧ x.2.1 ≤ 9223372036854775807 ∧ Writ W x.1 x.2.1) ∧ ∀ i, i < xs.length → W.cell? ⟨bs, i, none⟩ = some (.slice (some ⟨(xs.getD i (0, 0, 0)).1, 0, none⟩) (xs.getD i (0, 0, 0)).2.1 (xs.getD i (0, 0, 0)).2.2)
theorem RowK.store {B W : World} {bs : Nat} {xs : List (Nat × Nat × Nat)} (h : RowK B W bs xs) {x : Nat × Nat × Nat} (hx : x ∈ xs) (i : Nat) (v : Value) : RowK B (W.setCell ⟨x.1, i, none⟩ v) bs xs := by
  obtain ⟨h1, h2, h3⟩ := h
  have hx' := h2 x hx
  refine ⟨belowg ((gbelow h1).setCell (p := ⟨x.1, i, none⟩) hx'.1 v), fun y hy => ?_, fun j hj => ?_⟩
  · obtain ⟨a, b, c, d⟩ := h2 y hy
    exact ⟨a, b, c, d.set _ _⟩
  · rw [World.cell?_setCell_far _ _ _ _ (by show x.1 ≠ bs; omega)]
    exact h3 j hj
theorem rowK_start {B W : World} {t : TypeId} {x1 x2 x3 x4 : Nat × Nat × Nat} (hB : B.grownBy W none)
    (h1 : B.heap.size ≤ x1.1 ∧ x1.1 < W.heap.size ∧ x1.2.1 ≤ 9223372036854775807 ∧ Writ W x1.1 x1.2.1) (h2 : B.heap.size ≤ x2.1 ∧ x2.1 < W.heap.size ∧ x2.2.1 ≤ 9223372036854775807 ∧ Writ W x2.1 x2.2.1)
    (h3 : B.heap.size ≤ x3.1 ∧ x3.1 < W.heap.size ∧ x3.2.1 ≤ 9223372036854775807 ∧ Writ W x3.1 x3.2.1) (h4 : B.heap.size ≤ x4.1 ∧ x4.1 < W.heap.size ∧ x4.2.1 ≤ 9223372036854775807 ∧ Writ W x4.1 x4.2.1) :
    RowK B (W.alloc (.cells #[.slice (some ⟨x1.1, 0, none⟩) x1.2.1 x1.2.2, .slice (some ⟨x2.1, 0, none⟩) x2.2.1 x2.2.2, .slice (some ⟨x3.1, 0, none⟩) x3.2.1 x3.2.2, .slice (some ⟨x4.1, 0, none⟩) x4.2.1 x4.2.2] t)) W.heap.size [x1, x2, x3, x4] := by
  have hk : ∀ o, W.grownBy (W.alloc o) none := fun o => World.grownBy_alloc W o none
  refine ⟨galloc hB _, fun x hx => ?_, fun i hi => ?_⟩
  · have hx' : x = x1 ∨ x = x2 ∨ x = x3 ∨ x = x4 := by simpa using hx
    rcases hx' with rfl | rfl | rfl | rfl
    · exact ⟨h1.1, h1.2.1, h1.2.2.1, h1.2.2.2.kept (hk _)⟩
    · exact ⟨h2.1, h2.2.1, h2.2.2.1, h2.2.2.2.kept (hk _)⟩
    · exact ⟨h3.1, h3.2.1, h3.2.2.1, h3.2.2.2.kept (hk _)⟩
    · exact ⟨h4.1, h4.2.1, h4.2.2.1, h4.2.2.2.kept (hk _)⟩
  · have hi' : i < 4 := hi
    rw [cell_of_heap (heap_alloc_new W _) i]
    rcases i with _ | _ | _ | _ | i
    · rfl
    · rfl
    · rfl
    · rfl
    · omega
theorem writ_at {B W W' : World} {g n : Nat} (hge : B.heap.size ≤ g) (hlt : g < W.heap.size) (hn : n ≤ 9223372036854775807) (h : Writ W g n) (hg : W.grownBy W' none) : B.heap.size ≤ g ∧ g < W'.heap.size ∧ n ≤ 9223372036854775807 ∧ Writ W' g n :=
  ⟨hge, Nat.lt_of_lt_of_le hlt hg.size, hn, h.kept hg⟩

theorem writUpper (v : Value) (l : List UInt8) (w : World) (hB : BytesL w v l) (hs : l.length < 35184372088832) (hT : CTabs w) : Calls Tryd.prog 20 #[v] w (WritP w) := (implUpperB_any v l w hB hs hT).mono fun _ _ h => h.writ

theorem writLower (v : Value) (l : List UInt8) (w : World) (hB : BytesL w v l) (hs : l.length < 35184372088832) (hT : CTabs w) : Calls Tryd.prog 22 #[v] w (WritP w) := (implLowerB_any v l w hB hs hT).mono fun _ _ h => h.writ

theorem writTitle (v : Value) (l : List UInt8) (w : World) (hB : BytesL w v l) (hs : l.length < 35184372088832) (hT : CTabs w) : Calls Tryd.prog 24 #[v] w (WritP w) := (implTitleB_any v l w hB hs hT).mono fun _ _ h => h.writ

theorem writMap (v : Value) (T : List (Int × Int)) (keep : Bool) (rest : Int) (u : Value) (l : List UInt8) (w : World) (hT : RulesL w v T) (hok : okT T) (hr0 : -2147483648 ≤ rest) (hr1 : rest ≤ 2147483647) (hB : BytesL w u l) (hs : l.length < 35184372088832) (hU : Utf8T w) :
    Calls Tryd.prog 35 #[v, .bool keep, .int .i32 rest, u] w (WritP w) := (implMapB_any v T keep rest u l w hT hok hr0 hr1 hB hs hU).mono fun _ _ h => (fresh_of_new h).writ

set_option maxHeartbeats 8000000 in
set_option maxRecDepth 100000 in
theorem bytesKept_walk (w : World) (l : List UInt8) (bv : Value) (hb : BytesL w bv l) (hT : CTabs w) :
    Calls Tryd.prog 10 #[bv] w (TruePost w) := by
  have hv := hb.code
  clear hb
  rcases hv.split with ⟨a, len, cap, rfl, hl, hl2⟩ | ⟨⟨a, len, cap, rfl, hl⟩, hC⟩
  · clear hv hT
    have hl' : (1048576 : Int) < (len : Int) := by omega
    go_enter Tryd.func10, Tryd.ntmps10
    go_wp2
    go_ret
    exact ⟨rfl, grefl w none⟩
  · have hl' : ¬ (1048576 : Int) < (len : Int) := by omega
    have HC := Lib.hid hC
    have HT := Lib.hid hT
    clear hv hC hT
    go_enter Tryd.func10, Tryd.ntmps10
    go_wp2_with fail
    refine (drawMap_any _ _ HC.out).mono ?_
    rintro e w1 ⟨tv, T, keep, rest, s, hT5, hok, hr0, hr1, hs, rfl, hRL, hg1⟩
    have HR := Lib.hid hRL
    have HOK := Lib.hid hok
    clear hRL hok
    have G1 := Lib.hid hg1
    clear hg1
    clear HC
    have hls : s.data.toList.length = s.size := (Lib.size_eq s).symm
    obtain ⟨o, ho⟩ := ex_outM (mapD (imgT [] true 0) s.data.toList)
    have HOUT := Lib.hid ho
    clear ho
    obtain ⟨ab, cb, WB, hcb, hB, hgB⟩ := to_bytes w1 s (by omega)
    have HB := Lib.hid hB
    have G2 := Lib.hid (gtrans G1.out hgB)
    replace HR := Lib.hid (HR.out.kept hgB)
    obtain ⟨ta, tc, rfl, -, -⟩ := HR.out.form
    clear hB
    go_wp2_with fail
    clear hcb hgB G1
    refine (writUpper _ _ WB HB.out (by omega) (HT.out.grown G2.out)).mono ?_
    rintro e W1 ⟨g1, n1, c1, rfl, hn1, hge1, hgl1, hw, hg⟩
    have HW1 := Lib.hid hw
    clear hw
    have GB := Lib.hid hg
    clear hg
    go_wp2_with fail
    refine (writLower _ _ W1 (HB.out.kept GB.out) (by omega) (HT.out.grown (gtrans G2.out GB.out))).mono ?_
    rintro e W2 ⟨g2, n2, c2, rfl, hn2, hge2, hgl2, hw, hg⟩
    have HW2 := Lib.hid hw
    clear hw
    replace HW1 := Lib.hid (HW1.out.kept hg)
    replace hgl1 := Nat.lt_of_lt_of_le hgl1 hg.size
    replace hge2 := Nat.le_trans GB.out.size hge2
    replace GB := Lib.hid (gtrans GB.out hg)
    clear hg
    go_wp2_with fail
    refine (writTitle _ _ W2 (HB.out.kept GB.out) (by omega) (HT.out.grown (gtrans G2.out GB.out))).mono ?_
    rintro e W3 ⟨g3, n3, c3, rfl, hn3, hge3, hgl3, hw, hg⟩
    have HW3 := Lib.hid hw
    clear hw
    replace HW1 := Lib.hid (HW1.out.kept hg)
    replace hgl1 := Nat.lt_of_lt_of_le hgl1 hg.size
    replace HW2 := Lib.hid (HW2.out.kept hg)
    replace hgl2 := Nat.lt_of_lt_of_le hgl2 hg.size
    replace hge3 := Nat.le_trans GB.out.size hge3
    replace GB := Lib.hid (gtrans GB.out hg)
    clear hg
    go_wp2_with fail
    refine (rules_any _ T W3 (HR.out.kept GB.out) (by omega)).mono ?_
    rintro e W4 ⟨vr, rfl, hOR, hnR, hg⟩
    have HV := Lib.hid (rules_of_own hOR)
    obtain ⟨va, vc, rfl, -, -⟩ := HV.out.form
    clear hOR hnR
    replace HW1 := Lib.hid (HW1.out.kept hg)
    replace hgl1 := Nat.lt_of_lt_of_le hgl1 hg.size
    replace HW2 := Lib.hid (HW2.out.kept hg)
    replace hgl2 := Nat.lt_of_lt_of_le hgl2 hg.size
    replace HW3 := Lib.hid (HW3.out.kept hg)
    replace hgl3 := Nat.lt_of_lt_of_le hgl3 hg.size
    replace GB := Lib.hid (gtrans GB.out hg)
    clear hg HR
    go_wp2_with fail
    refine (writMap _ T keep rest _ _ W4 HV.out HOK.out hr0 hr1 (HB.out.kept GB.out) (by omega) (HT.out.grown (gtrans G2.out GB.out)).2).mono ?_
    rintro e W5 ⟨g4, n4, c4, rfl, hn4, hge4, hgl4, hw, hg⟩
    have HW4 := Lib.hid hw
    clear hw HV HOK
    replace HW1 := Lib.hid (HW1.out.kept hg)
    replace hgl1 := Nat.lt_of_lt_of_le hgl1 hg.size
    replace HW2 := Lib.hid (HW2.out.kept hg)
    replace hgl2 := Nat.lt_of_lt_of_le hgl2 hg.size
    replace HW3 := Lib.hid (HW3.out.kept hg)
    replace hgl3 := Nat.lt_of_lt_of_le hgl3 hg.size
    replace hge4 := Nat.le_trans GB.out.size hge4
    replace GB := Lib.hid (gtrans GB.out hg)
    clear hg
    have HK0 := Lib.hid (rowK_start (t := 22) (x1 := (g1, n1, c1)) (x2 := (g2, n2, c2)) (x3 := (g3, n3, c3)) (x4 := (g4, n4, c4)) GB.out ⟨hge1, hgl1, hn1, HW1.out⟩ ⟨hge2, hgl2, hn2, HW2.out⟩ ⟨hge3, hgl3, hn3, HW3.out⟩ ⟨hge4, hgl4, hn4, HW4.out⟩)
    clear HW1 HW2 HW3 HW4 hge1 hge2 hge3 hge4 hgl1 hgl2 hgl3 hgl4 hn1 hn2 hn3 hn4
    go_wp2_with fail
    obtain ⟨xs, hxs⟩ : ∃ xs : List (Nat × Nat × Nat), xs = [(g1, n1, c1), (g2, n2, c2), (g3, n3, c3), (g4, n4, c4)] := ⟨_, rfl⟩
    have hx4 : xs.length = 4 := by rw [hxs]; rfl
    rw [← hxs] at HK0
    clear hxs
    go_loopg [37] 4 (fun g s37 wx => ∃ j : Nat, j + g = 4 ∧ s37 = .int .i64 j ∧ Hid (RowK WB wx W5.heap.size xs))
    case atStart => exact ⟨0, by omega, rfl, HK0.out⟩
    case round =>
      clear HK0 GB
      obtain ⟨j, hj, rfl, HK⟩ := hrel
      by_cases hlt : j < 4
      · have hzj : (j : Int) < 4 := by omega
        obtain ⟨gq, rfl⟩ : ∃ g', gk = g' + 1 := ⟨gk - 1, by omega⟩
        have hj0 : (0 : Int) ≤ (j : Int) := by omega
        have hcell := HK.out.2.2 j (by omega)
        obtain ⟨x, hx, hxe⟩ : ∃ x, x ∈ xs ∧ xs.getD j (0, 0, 0) = x := ⟨xs.getD j (0, 0, 0), by rw [List.getD_eq_getElem?_getD, List.getElem?_eq_getElem (by omega)]; exact List.getElem_mem _, rfl⟩
        rw [hxe] at hcell
        have hxm := (HK.out.2.1 x hx).2.2.1
        have HX := Lib.hid hx
        clear hxe hx
        obtain ⟨gx, nx, cx⟩ := x
        dsimp only at hcell hxm
        go_wp2_with fail
        obtain ⟨wo, hwo⟩ : ∃ wo : World, wo = wr := ⟨_, rfl⟩
        subst hwo
        go_loopg [43] nx (fun g s43 wx => ∃ i : Nat, i + g = nx ∧ s43 = .int .i64 i ∧ Hid (RowK WB wx W5.heap.size xs))
        case atStart => exact ⟨0, by omega, rfl, HK.out⟩
        case round =>
          clear HK hcell
          obtain ⟨i, hi, rfl, HK⟩ := hrel
          by_cases hlt2 : i < nx
          · have hzi : (i : Int) < (nx : Int) := by omega
            obtain ⟨g', rfl⟩ : ∃ g', gk = g' + 1 := ⟨gk - 1, by omega⟩
            have hi0 : (0 : Int) ≤ (i : Int) := by omega
            obtain ⟨⟨u, hu⟩, hfz⟩ := (HK.out.2.1 _ HX.out).2.2.2 i hlt2
            dsimp only at hu hfz
            have HK2 := Lib.hid (HK.out.store HX.out i (.int .u8 120))
            dsimp only at HK2
            clear HK
            go_wp2_with fail
            go_roundg g'
            case measure => omega
            case rel => exact ⟨i + 1, by omega, by first | rfl | simp, HK2.out⟩
          · have hzi : ¬ (i : Int) < (nx : Int) := by omega
            have hcv : (convert 22 9 (.slice (some ⟨ab, 0, none⟩) s.size cb)).run Tryd.prog wr = .ok (.string s) wr := by have h := bytes_str (HB.out.kept HK.out.1); rw [Array.toArray_toList] at h; exact h
            go_wp2_with fail
            go_roundg gq
            case measure => omega
            case rel => exact ⟨j + 1, by omega, by first | rfl | simp, HK.out⟩
      · have hzj : ¬ (j : Int) < 4 := by omega
        have GK := Lib.hid HK.out.1
        clear HK
        go_wp2_with fail
        refine wp_region_held_drew (S := fun w' => WB.grownBy w' none) (by kernel_rfl) (gdrew GK.out) (fun hHeld => ?_)
        generalize wr.drew = V0 at hHeld ⊢
        clear GK
        refine wpAnyH_ready (rs := [0]) (by kernel_rfl) (by simp) ?_
        refine AllReadyH.cons (o := ?_) ?_ (fun K hK => ?_) AllReadyH.nil
        rotate_left 1
        · rw [List.getElem?_toArray]; rfl
        go_simp
        obtain ⟨b1, V1, hf1, hb, hg, eV, eb⟩ := some_block V0
        rw [eV, eb]
        clear eV eb
        have hw1 := Nat.le_trans hHeld.size hb
        refine hK.out _ _ ?_ (fun hHeld => ?_)
        · exact gtrans hHeld hg
        clear hK K
        clear hg hb
        refine wpAnyH_ready (rs := [1]) (by kernel_rfl) (by simp) ?_
        refine AllReadyH.cons (o := ?_) ?_ (fun K hK => ?_) AllReadyH.nil
        rotate_left 1
        · rw [List.getElem?_toArray]; rfl
        obtain ⟨V2, hcb, hfn, hg⟩ := conv_mark V1 b1 hf1
        go_simp
        refine hK.out _ _ ?_ (fun hHeld => ?_)
        · exact gjoin hHeld hg hw1
        clear hK K
        clear hcb hg hf1
        refine wpAnyH_ready (rs := [2]) (by kernel_rfl) (by simp) ?_
        refine AllReadyH.cons (o := ?_) ?_ (fun K hK => ?_) AllReadyH.nil
        rotate_left 1
        · rw [List.getElem?_toArray]; rfl
        go_simp
        go_wp2_with (go_at_call 20; refine (bytesUpper_is _ _ (⟨#[83, 79, 77, 69]⟩ : ByteArray) V2 hfn.bytes (by decide) (HT.out.grown (gtrans G2.out hHeld)) (by decide +kernel)).mono ?_; rintro e V3 ⟨gM, cM, rfl, hO, hg⟩)
        refine hK.out _ _ ?_ (fun hHeld => ?_)
        · exact gtrans hHeld hg
        clear hK K
        clear hg
        have J := Lib.hid hHeld
        refine wpAnyH_more (S' := fun w' => V3.grownBy w' none) (fun w' h => gtrans J.out h) _ _ _ _ ?_
        replace hHeld : (fun w' => V3.grownBy w' none) _ := grefl V3 none
        refine wpAnyH_take (i := 3) (oi := ?_) (v := ?_) ?_ (by kernel_rfl) (by kernel_rfl) (by kernel_rfl) ?_ (Or.inl ⟨?_, ?_⟩) hHeld ?_
        rotate_left 2
        · rw [List.getElem?_toArray]; rfl
        · exact fun _ _ _ h => h
        · rfl
        · intro w' hSw
          have hcv : (convert 22 9 (.slice (some ⟨gM, 0, none⟩) 4 cM)).run Tryd.prog w' = .ok (.string ⟨#[83, 79, 77, 69]⟩) w' := hO _ hSw
          go_simp
          try with_reducible rfl
        try simp only [Act.put, List.setIfInBounds_toArray, List.set_cons_zero, List.set_cons_succ]
        clear hO
        refine wpAnyH_take (i := 4) (oi := ?_) (v := ?_) ?_ (by kernel_rfl) (by kernel_rfl) (by kernel_rfl) ?_ (Or.inl ⟨?_, ?_⟩) hHeld ?_
        rotate_left 2
        · rw [List.getElem?_toArray]; rfl
        · exact fun _ _ _ h => h
        · rfl
        · intro w' hSw
          go_simp
          try with_reducible rfl
        try simp only [Act.put, List.setIfInBounds_toArray, List.set_cons_zero, List.set_cons_succ]
        refine wpAnyH_take (i := 5) (oi := ?_) (v := ?_) ?_ (by kernel_rfl) (by kernel_rfl) (by kernel_rfl) ?_ (Or.inl ⟨?_, ?_⟩) hHeld ?_
        rotate_left 2
        · rw [List.getElem?_toArray]; rfl
        · exact fun _ _ _ h => h
        · rfl
        · intro w' hSw
          go_simp
          try with_reducible rfl
        try simp only [Act.put, List.setIfInBounds_toArray, List.set_cons_zero, List.set_cons_succ]
        refine wpAnyH_take (i := 6) (oi := ?_) (v := ?_) ?_ (by kernel_rfl) (by kernel_rfl) (by kernel_rfl) ?_ (Or.inl ⟨?_, ?_⟩) hHeld ?_
        rotate_left 2
        · rw [List.getElem?_toArray]; rfl
        · exact fun _ _ _ h => h
        · rfl
        · intro w' hSw
          go_simp
          try with_reducible rfl
        try simp only [Act.put, List.setIfInBounds_toArray, List.set_cons_zero, List.set_cons_succ]
        refine wpAnyH_take (i := 9) (oi := ?_) (v := ?_) ?_ (by kernel_rfl) (by kernel_rfl) (by kernel_rfl) ?_ (Or.inl ⟨?_, ?_⟩) hHeld ?_
        rotate_left 2
        · rw [List.getElem?_toArray]; rfl
        · exact fun _ _ _ h => h
        · rfl
        · intro w' hSw
          go_simp
          try with_reducible rfl
        try simp only [Act.put, List.setIfInBounds_toArray, List.set_cons_zero, List.set_cons_succ]
        refine wpAnyH_ready (rs := [7]) (by kernel_rfl) (by simp) ?_
        refine AllReadyH.cons (o := ?_) ?_ (fun K hK => ?_) AllReadyH.nil
        rotate_left 1
        · rw [List.getElem?_toArray]; rfl
        go_simp
        go_wp2_with (go_at_call 35; refine (mapB_is _ [] true 0 _ s.data.toList o V3 (RulesL.nil _) okT_nil (by decide) (by decide) (HB.out.kept J.out) (by omega) (HT.out.grown (gtrans G2.out J.out)).2 HOUT.out).mono ?_; rintro e V4 ⟨gN, cN, rfl, hO, hg⟩)
        refine hK.out _ _ ?_ (fun hHeld => ?_)
        · exact gtrans hHeld hg
        clear hK K
        replace J := Lib.hid (gtrans J.out hg)
        have JM := Lib.hid hg
        clear hg
        refine wpAnyH_more (S' := fun w' => V4.grownBy w' none) (fun w' h => gtrans JM.out h) _ _ _ _ ?_
        replace hHeld : (fun w' => V4.grownBy w' none) _ := grefl V4 none
        refine wpAnyH_take (i := 8) (oi := ?_) (v := ?_) ?_ (by kernel_rfl) (by kernel_rfl) (by kernel_rfl) ?_ (Or.inl ⟨?_, ?_⟩) hHeld ?_
        rotate_left 2
        · rw [List.getElem?_toArray]; rfl
        · exact fun _ _ _ h => h
        · rfl
        · intro w' hSw
          have hcv := hO _ hSw
          go_simp
          try with_reducible rfl
        try simp only [Act.put, List.setIfInBounds_toArray, List.set_cons_zero, List.set_cons_succ]
        clear hO
        refine wpAnyH_ready (rs := [10]) (by kernel_rfl) (by simp) ?_
        refine AllReadyH.cons (o := ?_) ?_ (fun K hK => ?_) AllReadyH.nil
        rotate_left 1
        · rw [List.getElem?_toArray]; rfl
        go_simp
        go_wp2_with (go_at_call 37; refine (specMap_is _ [] true 0 s o V4 (RulesL.nil _) okT_nil (by decide) (by omega) HOUT.out).mono ?_; rintro e V5 ⟨rfl, hg⟩)
        refine hK.out _ _ ?_ (fun hHeld => ?_)
        · exact gtrans hHeld hg
        clear hK K
        replace J := Lib.hid (gtrans J.out hg)
        clear hg
        refine wpAnyH_take (i := 11) (oi := ?_) (v := ?_) ?_ (by kernel_rfl) (by kernel_rfl) (by kernel_rfl) ?_ (Or.inl ⟨?_, ?_⟩) hHeld ?_
        rotate_left 2
        · rw [List.getElem?_toArray]; rfl
        · exact fun _ _ _ h => h
        · rfl
        · intro w' hSw
          go_simp
          try with_reducible rfl
        try simp only [Act.put, List.setIfInBounds_toArray, List.set_cons_zero, List.set_cons_succ]
        refine wpAnyH_take (i := 12) (oi := ?_) (v := ?_) ?_ (by kernel_rfl) (by kernel_rfl) (by kernel_rfl) ?_ (Or.inl ⟨?_, ?_⟩) hHeld ?_
        rotate_left 2
        · rw [List.getElem?_toArray]; rfl
        · exact fun _ _ _ h => h
        · rfl
        · intro w' hSw
          go_simp
          try with_reducible rfl
        try simp only [Act.put, List.setIfInBounds_toArray, List.set_cons_zero, List.set_cons_succ]
        refine wpAnyH_take (i := 13) (oi := ?_) (v := ?_) ?_ (by kernel_rfl) (by kernel_rfl) (by kernel_rfl) ?_ (Or.inl ⟨?_, ?_⟩) hHeld ?_
        rotate_left 2
        · rw [List.getElem?_toArray]; rfl
        · exact fun _ _ _ h => h
        · rfl
        · intro w' hSw
          go_simp
          try with_reducible rfl
        try simp only [Act.put, List.setIfInBounds_toArray, List.set_cons_zero, List.set_cons_succ]
        refine wpAnyH_done (by kernel_rfl) ?_ _
        go_wp2_with fail
        go_ret
        exact ⟨by first | rfl | simp, gtrans G2.out J.out⟩

end Go.Proofs.YtjcbhnnlakfmaaaDoor
